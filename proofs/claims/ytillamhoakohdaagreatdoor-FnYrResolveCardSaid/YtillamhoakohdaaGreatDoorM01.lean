/-
  Plain functions on lists of bytes: what the program and the reference compute. Nothing is claimed here. Plain functions on times: what the reference computes. Nothing is claimed here. Plain functions on times as the program reads them, and that they are the reference's. Plain law: decimals by their digits. Plain law: a decimal doubled: digits from the right, laid the other way round at the end.
-/
set_option linter.unusedVariables false
set_option linter.unusedSimpArgs false
namespace Go.Proofs.YtillamhoakohdaaGreatDoor
abbrev Bs := List UInt8

inductive PV where
 | nul | bool (b : Bool) | int (i : Int) | uint (n : Int) | flt (b : Nat) | txt (l : Bs) | tim (a : List Int)

def digV (c : Int) : Int := if 48 ≤ c ∧ c ≤ 57 then c - 48 else if 97 ≤ c ∧ c ≤ 102 then c - 87 else if 65 ≤ c ∧ c ≤ 70 then c - 55 else 99
theorem digV_bd (c : Int) : 0 ≤ digV c ∧ digV c ≤ 99 := by unfold digV; split <;> (try split) <;> (try split) <;> omega

def amt (base : Int) : Int → Bs → Option Int
 | n, [] => some n
 | n, c :: l => if digV c.toNat ≥ base ∨ n > (18446744073709551615 - digV c.toNat) / base then none else amt base (n * base + digV c.toNat) l

def amount (l : Bs) (base : Int) : Option Int := if l = [] then none else amt base 0 l

theorem amt_none {b n : Int} {c : UInt8} {l : Bs} (h : b ≤ digV c.toNat ∨ (18446744073709551615 - digV c.toNat) / b < n) : amt b n (c :: l) = none := by
 unfold amt; rw [if_pos (by omega)]
theorem amt_some {b n : Int} {c : UInt8} {l : Bs} (h : digV c.toNat < b ∧ n ≤ (18446744073709551615 - digV c.toNat) / b) : amt b n (c :: l) = amt b (n * b + digV c.toNat) l := by
 rw [amt, if_neg (by omega)]
theorem amt_fits {b n d : Int} (hb : 2 ≤ b) (h0 : 0 ≤ n) (hd : 0 ≤ d) (h : n ≤ (18446744073709551615 - d) / b) : 0 ≤ n * b ∧ n * b + d ≤ 18446744073709551615 := by
 have h1 : n * b ≤ (18446744073709551615 - d) / b * b := Int.mul_le_mul_of_nonneg_right h (by omega)
 have h2 := Int.ediv_mul_le (18446744073709551615 - d) (show b ≠ 0 by omega)
 exact ⟨Int.mul_nonneg h0 (by omega), by omega⟩
theorem amt_bd (b : Int) (hb : 2 ≤ b) : ∀ (l : Bs) (n m : Int), 0 ≤ n → n ≤ 18446744073709551615 → amt b n l = some m → 0 ≤ m ∧ m ≤ 18446744073709551615
 | [], n, m, h0, h1, h => by simp [amt] at h; omega
 | c :: l, n, m, h0, h1, h => by
  by_cases hc : digV c.toNat < b ∧ n ≤ (18446744073709551615 - digV c.toNat) / b
  ·rw [amt_some hc] at h
   have := digV_bd c.toNat
   have h2 := amt_fits hb h0 this.1 hc.2
   exact amt_bd b hb l _ m (by omega) h2.2 h
  ·rw [amt_none (by omega)] at h; cases h

def sgn : Bs → Bs × Bool × Bool
 | c :: r => if c = 45 then (r, true, true) else if c = 43 then (r, false, true) else (c :: r, false, false)
 | [] => ([], false, false)

def based : Bs → Bs × Int
 | c0 :: c :: r => if c0 = 48 then (if c = 120 ∨ c = 88 then (r, 16) else if c = 111 ∨ c = 79 then (r, 8) else if c = 98 ∨ c = 66 then (r, 2) else (c :: r, 8)) else (c0 :: c :: r, 10)
 | l => (l, 10)

def signed (neg sign : Bool) (n : Int) : Option PV :=
 if neg = true ∧ n ≤ 9223372036854775808 then some (.int (-n)) else if neg = false ∧ n < 9223372036854775808 then some (.int n) else if sign = false then some (.uint n) else none

def whole2 : Bs → Option PV
 | c0 :: c :: r => if r ≠ [] ∧ c0 = 48 ∧ (c = 98 ∨ c = 111) then
   (if (sgn r).2.2 = true then (amount (sgn r).1 (if c = 111 then 8 else 2)).bind (signed (sgn r).2.1 true) else none) else none
 | _ => none

def whole (l : Bs) : Option PV :=
 match (amount (based (sgn l).1).1 (based (sgn l).1).2).bind (signed (sgn l).2.1 (sgn l).2.2) with
 | some v => some v
 | none => whole2 l

def bare (l : Bs) : Bs := l.filter (· ≠ 95)

def digits : Bs → Nat
 | c :: l => if 48 ≤ c.toNat ∧ c.toNat ≤ 57 then digits l + 1 else 0
 | [] => 0
def dotted (n : Nat) : Bs → Bs × Nat
 | c :: r => if c = 46 then (r.drop (digits r), n + digits r) else (c :: r, n)
 | [] => ([], n)
def expo : Bs → Bool
 | c :: r => if c = 101 ∨ c = 69 then decide (digits (sgn r).1 ≠ 0) && ((sgn r).1.drop (digits (sgn r).1)).isEmpty else false
 | [] => true
def real (l : Bs) : Bool :=
 decide ((dotted (digits (sgn l).1) ((sgn l).1.drop (digits (sgn l).1))).2 ≠ 0) && expo (dotted (digits (sgn l).1) ((sgn l).1.drop (digits (sgn l).1))).1
theorem digits_le : ∀ l : Bs, digits l ≤ l.length
 | [] => Nat.le_refl 0
 | c :: l => by unfold digits; split <;> simp <;> exact digits_le l
end Go.Proofs.YtillamhoakohdaaGreatDoor
namespace Go.Proofs.YtillamhoakohdaaGreatDoor

def isDig (c : UInt8) : Bool := decide (48 ≤ c.toNat ∧ c.toNat ≤ 57)
def dig (c : UInt8) : Int := (c.toNat : Int) - 48

def num2 : Bs → Int × Nat × Bs
 | c1 :: c2 :: r => if isDig c1 then (if isDig c2 then (10 * dig c1 + dig c2, 2, r) else (dig c1, 1, c2 :: r)) else (0, 0, c1 :: c2 :: r)
 | [c1] => if isDig c1 then (dig c1, 1, []) else (0, 0, [c1])
 | [] => (0, 0, [])
def clkNum (lo hi : Int) (l : Bs) (bad : Bool) : Int × Bs × Bool :=
 ((num2 l).1, (num2 l).2.2, bad || decide ((num2 l).2.1 = 0 ∨ (num2 l).1 < lo ∨ hi < (num2 l).1))
def clkSign (b : UInt8) (l : Bs) (bad : Bool) : Bs × Bool :=
 match l with
 | c :: r => if c = b then (r, bad) else (c :: r, true)
 | [] => ([], true)
def clkBlanks (l : Bs) (bad : Bool) : Bs × Bool :=
 match l with
 | c :: r => if c = 32 then (r.dropWhile (· = 32), bad) else (c :: r, true)
 | [] => ([], true)
def nanoGo : Nat → Int → Bs → Int × Nat × Bs
 | k, n, c :: l => if isDig c then nanoGo (k + 1) (if k < 10 then 10 * n + dig c else n) l else (n, k, c :: l)
 | k, n, [] => (n, k, [])
def clkNano (l : Bs) : Int × Bs :=
 match l with
 | c0 :: c1 :: r => if (c0 = 46 ∨ c0 = 44) ∧ isDig c1 = true then ((nanoGo 1 0 (c1 :: r)).1 * 10 ^ (10 - (nanoGo 1 0 (c1 :: r)).2.1), (nanoGo 1 0 (c1 :: r)).2.2) else (0, c0 :: c1 :: r)
 | l => (0, l)
def zoneNum (neg : Bool) : Option Int → Option Int → Option Int
 | some h, some m => if h ≤ 24 ∧ m ≤ 60 then some (if neg = true then -(h * 3600 + m * 60) else h * 3600 + m * 60) else none
 | _, _ => none
def zoneOf (l : Bs) : Option Int :=
 if l = [90] then some 0 else
 match sgn l with
 | ([a, b, c, d, e], neg, true) =>
  if c = 58 then zoneNum neg (amount [a, b] 10) (amount [d, e] 10) else none
 | _ => none
def daysOf (y m : Int) : Int :=
 if m = 2 then (if y.tmod 4 = 0 ∧ (y.tmod 100 ≠ 0 ∨ y.tmod 400 = 0) then 29 else 28) else if m = 4 ∨ m = 6 ∨ m = 9 ∨ m = 11 then 30 else 31

def clockOf (zone : Bool) (y mo d : Int) (l : Bs) (bad : Bool) : Option (List Int) :=
 let h := clkNum 0 23 l bad
 let s1 := clkSign 58 h.2.1 h.2.2
 let mi := clkNum 0 59 s1.1 s1.2
 let s2 := clkSign 58 mi.2.1 mi.2.2
 let se := clkNum 0 59 s2.1 s2.2
 let na := clkNano se.2.1
 if se.2.2 then none else
 if zone then (zoneOf na.2).map fun z => [y, mo, d, h.1, mi.1, se.1, na.1, z]
 else if na.2 = [] then some [y, mo, d, h.1, mi.1, se.1, na.1, 0] else none

def timeRest (y mo d : Int) : Bs → Option (List Int)
 | [] => some [y, mo, d, 0, 0, 0, 0, 0]
 | c :: r => if c = 84 ∨ c = 116 then clockOf true y mo d r false else clockOf false y mo d (clkBlanks (c :: r) false).1 (clkBlanks (c :: r) false).2
def timeBehind (y : Int) (l : Bs) : Option (List Int) :=
 let mo := clkNum 1 12 l false
 let s1 := clkSign 45 mo.2.1 mo.2.2
 let d := clkNum 1 (daysOf y mo.1) s1.1 s1.2
 if d.2.2 then none else timeRest y mo.1 d.1 d.2.1
def timeOf (l : Bs) : Option (List Int) :=
 if l[4]? ≠ some 45 then none else
 match amount (l.take 4) 10 with
 | none => none
 | some y => timeBehind y (l.drop 5)

theorem amt_lt (b : Int) (hb : 2 ≤ b) : ∀ (l : Bs) (n m : Int), 0 ≤ n → amt b n l = some m → m < (n + 1) * b ^ l.length
 | [], n, m, h0, h => by simp [amt] at h; simp; omega
 | c :: l, n, m, h0, h => by
  by_cases hc : digV c.toNat < b ∧ n ≤ (18446744073709551615 - digV c.toNat) / b
  ·rw [amt_some hc] at h
   have hd := digV_bd c.toNat
   have h2 := amt_fits hb h0 hd.1 hc.2
   have h3 := amt_lt b hb l _ m (by omega) h
   have h4 : n * b + digV c.toNat + 1 ≤ (n + 1) * b := by rw [Int.add_mul]; omega
   have h5 : (n * b + digV c.toNat + 1) * b ^ l.length ≤ (n + 1) * b * b ^ l.length := Int.mul_le_mul_of_nonneg_right h4 (Int.pow_nonneg (by omega))
   have h6 : (n + 1) * b * b ^ l.length = (n + 1) * b ^ (c :: l).length := by
    rw [List.length_cons, Int.pow_succ, Int.mul_assoc, Int.mul_comm b]
   omega
  ·rw [amt_none (by omega)] at h; cases h
end Go.Proofs.YtillamhoakohdaaGreatDoor
namespace Go.Proofs.YtillamhoakohdaaGreatDoor

def yr : Bs → Option (Int × Bs)
 | a :: b :: c :: d :: r => if isDig a = true ∧ isDig b = true ∧ isDig c = true ∧ isDig d = true then some (((dig a * 10 + dig b) * 10 + dig c) * 10 + dig d, r) else none
 | _ => none
def markNum (c : UInt8) : Bs → Option (Int × Bs)
 | d :: r => if d = c ∧ (num2 r).2.1 ≠ 0 then some ((num2 r).1, (num2 r).2.2) else none
 | [] => none
def dateP (l : Bs) : Option (Int × Int × Int × Bs) :=
 (yr l).bind fun a => (markNum 45 a.2).bind fun b => (markNum 45 b.2).bind fun c =>
  if b.1 < 1 ∨ 12 < b.1 ∨ c.1 < 1 ∨ daysOf a.1 b.1 < c.1 then none else some (a.1, b.1, c.1, c.2)
def numB (n : Int) (l : Bs) : Option (Int × Bs) := if (num2 l).2.1 ≠ 0 ∧ (num2 l).1 < n then some ((num2 l).1, (num2 l).2.2) else none
def markB (n : Int) : Bs → Option (Int × Bs)
 | d :: r => if d = 58 then numB n r else none
 | [] => none
def endP (form : UInt8) (y mo d h mi s : Int) (na : Int × Bs) : Option (List Int) :=
 if form = 32 then (if na.2 = [] then some [y, mo, d, h, mi, s, na.1, 0] else none) else (zoneOf na.2).map fun z => [y, mo, d, h, mi, s, na.1, z]
def clockP (form : UInt8) (y mo d : Int) (l : Bs) : Option (List Int) :=
 (numB 24 l).bind fun h => (markB 60 h.2).bind fun mi => (markB 60 mi.2).bind fun s => endP form y mo d h.1 mi.1 s.1 (clkNano s.2)
def restP (form : UInt8) (y mo d : Int) : Bs → Option (List Int)
 | c :: t => if c = form then clockP form y mo d (if form = 32 then t.dropWhile (· = 32) else t) else none
 | [] => none
def parseP (form : UInt8) (l : Bs) : Option (List Int) :=
 (dateP l).bind fun a => if form = 0 then (if a.2.2.2 = [] then some [a.1, a.2.1, a.2.2.1, 0, 0, 0, 0, 0] else none) else restP form a.1 a.2.1 a.2.2.1 a.2.2.2
def timesP (l : Bs) : Option (List Int) :=
 ((parseP 84 l).or ((parseP 116 l).or ((parseP 32 l).or (parseP 0 l))))

theorem isDig_digV (c : UInt8) : (isDig c = true ∧ digV c.toNat = dig c ∧ 0 ≤ dig c ∧ dig c ≤ 9) ∨ (isDig c = false ∧ 10 ≤ digV c.toNat) := by
 by_cases h : 48 ≤ c.toNat ∧ c.toNat ≤ 57
 ·left; refine ⟨by simpa [isDig] using h, ?_, ?_, ?_⟩ <;> unfold dig
  ·unfold digV; rw [if_pos (by omega)]
  ·omega
  ·omega
 ·right; refine ⟨by simpa [isDig] using h, ?_⟩
  unfold digV; rw [if_neg (by omega)]; split <;> (try split) <;> omega
theorem amt_dig {n : Int} {c : UInt8} {l : Bs} (h0 : 0 ≤ n) (h : n ≤ 100000) : amt 10 n (c :: l) = if isDig c = true then amt 10 (n * 10 + dig c) l else none := by
 rcases isDig_digV c with ⟨h1, h2, h3, h4⟩ | ⟨h1, h2⟩
 ·rw [if_pos h1, amt_some (by rw [h2]; omega), h2]
 ·rw [if_neg (by rw [h1]; decide), amt_none (by omega)]
theorem dig_bd {c : UInt8} (h : isDig c = true) : 0 ≤ dig c ∧ dig c ≤ 9 := by
 rcases isDig_digV c with ⟨_, _, h3, h4⟩ | ⟨h1, _⟩
 ·exact ⟨h3, h4⟩
 ·rw [h1] at h; cases h
theorem amount4 (a b c d : UInt8) : amount [a, b, c, d] 10 = if isDig a = true ∧ isDig b = true ∧ isDig c = true ∧ isDig d = true then some (((dig a * 10 + dig b) * 10 + dig c) * 10 + dig d) else none := by
 unfold amount
 rw [if_neg (by simp), amt_dig (by omega) (by omega)]
 by_cases ha : isDig a = true
 ·have := dig_bd ha
  rw [if_pos ha, amt_dig (by omega) (by omega)]
  by_cases hb : isDig b = true
  ·have := dig_bd hb
   rw [if_pos hb, amt_dig (by omega) (by omega)]
   by_cases hc : isDig c = true
   ·have := dig_bd hc
    rw [if_pos hc, amt_dig (by omega) (by omega)]
    by_cases hd : isDig d = true
    ·rw [if_pos hd, if_pos ⟨ha, hb, hc, hd⟩]; simp [amt]
    ·rw [if_neg hd, if_neg (fun h => hd h.2.2.2)]
   ·rw [if_neg hc, if_neg (fun h => hc h.2.2.1)]
  ·rw [if_neg hb, if_neg (fun h => hb h.2.1)]
 ·rw [if_neg ha, if_neg (fun h => ha h.1)]

theorem num2_nn (l : Bs) : 0 ≤ (num2 l).1 := by
 match l with
 | [] => simp [num2]
 | [c1] =>
  by_cases d1 : isDig c1 = true
  ·have := dig_bd d1; simp [num2, d1]; omega
  ·simp [num2, d1]
 | c1 :: c2 :: r =>
  by_cases d1 : isDig c1 = true
  ·have k1 := dig_bd d1
   by_cases d2 : isDig c2 = true
   ·have k2 := dig_bd d2; simp [num2, d1, d2]; omega
   ·simp [num2, d1, d2]; omega
  ·simp [num2, d1]
theorem clkNum0 (n : Int) (l : Bs) : clkNum 0 (n - 1) l false = match numB n l with | some a => (a.1, a.2, false) | none => ((num2 l).1, (num2 l).2.2, true) := by
 have h0 := num2_nn l
 unfold clkNum numB
 by_cases h : (num2 l).2.1 ≠ 0 ∧ (num2 l).1 < n
 ·rw [if_pos h]
  have : decide ((num2 l).2.1 = 0 ∨ (num2 l).1 < 0 ∨ n - 1 < (num2 l).1) = false := by simp; omega
  simp [this]
 ·rw [if_neg h]
  have : decide ((num2 l).2.1 = 0 ∨ (num2 l).1 < 0 ∨ n - 1 < (num2 l).1) = true := by
   simp only [decide_eq_true_eq]
   by_cases h2 : (num2 l).2.1 = 0
   ·exact .inl h2
   ·right; right
    have : ¬ (num2 l).1 < n := fun h3 => h ⟨h2, h3⟩
    omega
  simp only [this, Bool.or_true]
theorem clkNum_bad (lo hi : Int) (l : Bs) : (clkNum lo hi l true).2.2 = true := by simp [clkNum]
theorem clkSign_bad (c : UInt8) (l : Bs) : (clkSign c l true).2 = true := by unfold clkSign; split <;> (try split) <;> rfl
theorem clockOf_bad (z : Bool) (y mo d : Int) (l : Bs) : clockOf z y mo d l true = none := by
 unfold clockOf
 simp only [clkNum, clkSign_bad, Bool.true_or]
 simp [clkSign_bad]
theorem sign_no {c d : UInt8} {r : Bs} (h : d ≠ c) (b : Bool) : clkSign c (d :: r) b = (d :: r, true) := by unfold clkSign; simp [h]
theorem sign_yes (c : UInt8) (r : Bs) (b : Bool) : clkSign c (c :: r) b = (r, b) := by unfold clkSign; simp
theorem sign_nil (c : UInt8) (b : Bool) : clkSign c [] b = ([], true) := rfl
theorem clockOf_is (form : UInt8) (y mo d : Int) (l : Bs) : clockOf (!decide (form = 32)) y mo d l false = clockP form y mo d l := by
 unfold clockOf clockP
 simp only [show (23 : Int) = 24 - 1 from rfl, show (59 : Int) = 60 - 1 from rfl, clkNum0]
 cases hh : numB 24 l with
 | none => simp only [clkSign_bad, clkNum_bad, if_true, Option.bind_none]
 | some h =>
  simp only [Option.bind_some]
  cases hl : h.2 with
  | nil => simp only [sign_nil, clkSign_bad, clkNum_bad, if_true, markB, Option.bind_none]
  | cons c1 r1 =>
   by_cases e1 : c1 = 58
   rotate_left
   ·simp only [sign_no e1, clkSign_bad, clkNum_bad, if_true, markB, if_neg e1, Option.bind_none]
   subst e1
   simp only [sign_yes, markB, if_true, clkNum0]
   cases hm : numB 60 r1 with
   | none => simp only [clkSign_bad, clkNum_bad, if_true, Option.bind_none]
   | some mi =>
    simp only [Option.bind_some]
    cases hl2 : mi.2 with
    | nil => simp only [sign_nil, clkNum_bad, if_true, markB, Option.bind_none]
    | cons c2 r2 =>
     by_cases e2 : c2 = 58
     rotate_left
     ·simp only [sign_no e2, clkNum_bad, if_true, markB, if_neg e2, Option.bind_none]
     subst e2
     simp only [sign_yes, markB, if_true, clkNum0]
     cases hs : numB 60 r2 with
     | none => simp only [if_true, Option.bind_none]
     | some s =>
      simp only [Option.bind_some, endP]
      by_cases hf : form = 32
      ·simp [hf]
      ·simp [hf]
theorem clkNum1 (lo hi : Int) (l : Bs) : clkNum lo hi l false = if (num2 l).2.1 ≠ 0 ∧ lo ≤ (num2 l).1 ∧ (num2 l).1 ≤ hi then ((num2 l).1, (num2 l).2.2, false) else ((num2 l).1, (num2 l).2.2, true) := by
 unfold clkNum
 by_cases h : (num2 l).2.1 ≠ 0 ∧ lo ≤ (num2 l).1 ∧ (num2 l).1 ≤ hi
 ·rw [if_pos h]
  have : decide ((num2 l).2.1 = 0 ∨ (num2 l).1 < lo ∨ hi < (num2 l).1) = false := by simp; omega
  simp [this]
 ·rw [if_neg h]
  have : decide ((num2 l).2.1 = 0 ∨ (num2 l).1 < lo ∨ hi < (num2 l).1) = true := by
   simp only [decide_eq_true_eq]
   by_cases h2 : (num2 l).2.1 = 0
   ·exact .inl h2
   ·right
    by_cases h3 : (num2 l).1 < lo
    ·exact .inl h3
    ·right
     have : ¬ (num2 l).1 ≤ hi := fun h4 => h ⟨h2, by omega, h4⟩
     omega
  simp only [this, Bool.or_true]
theorem timeBehind_is (y : Int) (l : Bs) : timeBehind y l =
  (markNum 45 (45 :: l)).bind fun b => (markNum 45 b.2).bind fun c => if b.1 < 1 ∨ 12 < b.1 ∨ c.1 < 1 ∨ daysOf y b.1 < c.1 then none else timeRest y b.1 c.1 c.2 := by
 unfold timeBehind
 by_cases h1 : (num2 l).2.1 ≠ 0
 rotate_left
 ·rw [show markNum 45 (45 :: l) = none from if_neg (fun h => h1 h.2), show clkNum 1 12 l false = ((num2 l).1, (num2 l).2.2, true) by rw [clkNum1, if_neg (fun h => h1 h.1)]]
  simp only [clkSign_bad, clkNum_bad, if_true, Option.bind_none]
 rw [show markNum 45 (45 :: l) = some ((num2 l).1, (num2 l).2.2) from if_pos ⟨rfl, h1⟩]
 simp only [Option.bind_some]
 by_cases h2 : 1 ≤ (num2 l).1 ∧ (num2 l).1 ≤ 12
 rotate_left
 ·rw [show clkNum 1 12 l false = ((num2 l).1, (num2 l).2.2, true) by rw [clkNum1, if_neg (fun h => h2 h.2)]]
  simp only [clkSign_bad, clkNum_bad, if_true]
  cases (num2 l).2.2 with
  | nil => rfl
  | cons c r =>
   simp only [markNum]
   split
   ·simp only [Option.bind_some]; rw [if_pos (by omega)]
   ·rfl
 rw [show clkNum 1 12 l false = ((num2 l).1, (num2 l).2.2, false) by rw [clkNum1, if_pos ⟨h1, h2⟩]]
 simp only
 cases hq : (num2 l).2.2 with
 | nil => simp only [sign_nil, clkNum_bad, if_true, markNum, Option.bind_none]
 | cons c r =>
  by_cases hc : c = 45
  rotate_left
  ·simp only [sign_no hc, clkNum_bad, if_true, markNum]; rw [if_neg (fun h => hc h.1)]; rfl
  subst hc
  simp only [sign_yes]
  by_cases h3 : (num2 r).2.1 ≠ 0
  rotate_left
  ·rw [show clkNum 1 (daysOf y (num2 l).1) r false = ((num2 r).1, (num2 r).2.2, true) by rw [clkNum1, if_neg (fun h => h3 h.1)], show markNum 45 (45 :: r) = none from if_neg (fun h => h3 h.2)]; rfl
  rw [show markNum 45 (45 :: r) = some ((num2 r).1, (num2 r).2.2) from if_pos ⟨rfl, h3⟩]
  simp only [Option.bind_some]
  by_cases h4 : 1 ≤ (num2 r).1 ∧ (num2 r).1 ≤ daysOf y (num2 l).1
  ·rw [show clkNum 1 (daysOf y (num2 l).1) r false = ((num2 r).1, (num2 r).2.2, false) by rw [clkNum1, if_pos ⟨h3, h4⟩], if_neg (show ¬ ((num2 l).1 < 1 ∨ 12 < (num2 l).1 ∨ (num2 r).1 < 1 ∨ daysOf y (num2 l).1 < (num2 r).1) by omega)]; rfl
  ·rw [show clkNum 1 (daysOf y (num2 l).1) r false = ((num2 r).1, (num2 r).2.2, true) by rw [clkNum1, if_neg (fun h => h4 h.2)], if_pos (show ((num2 l).1 < 1 ∨ 12 < (num2 l).1 ∨ (num2 r).1 < 1 ∨ daysOf y (num2 l).1 < (num2 r).1) by omega)]; rfl
theorem timeOf_is (l : Bs) : timeOf l = (dateP l).bind fun a => timeRest a.1 a.2.1 a.2.2.1 a.2.2.2 := by
 have key : ∀ (y : Int) (r : Bs), ((markNum 45 r).bind fun b => (markNum 45 b.2).bind fun c => if b.1 < 1 ∨ 12 < b.1 ∨ c.1 < 1 ∨ daysOf y b.1 < c.1 then (none : Option (Int × Int × Int × Bs)) else some (y, b.1, c.1, c.2)).bind (fun a => timeRest a.1 a.2.1 a.2.2.1 a.2.2.2)
   = (markNum 45 r).bind fun b => (markNum 45 b.2).bind fun c => if b.1 < 1 ∨ 12 < b.1 ∨ c.1 < 1 ∨ daysOf y b.1 < c.1 then none else timeRest y b.1 c.1 c.2 := by
  intro y r
  cases markNum 45 r with
  | none => rfl
  | some b =>
   simp only [Option.bind_some]
   cases markNum 45 b.2 with
   | none => rfl
   | some c => simp only [Option.bind_some]; split <;> rfl
 unfold timeOf dateP
 match l with
 | [] => rfl
 | [_] => rfl
 | [_, _] => rfl
 | [_, _, _] => rfl
 | [a, b, c, d] =>
  rw [if_pos (by simp)]
  simp only [yr]
  by_cases hd : isDig a = true ∧ isDig b = true ∧ isDig c = true ∧ isDig d = true
  ·rw [if_pos hd]; rfl
  ·rw [if_neg hd]; rfl
 | a :: b :: c :: d :: e :: r =>
  simp only [yr, List.take, List.drop, amount4]
  by_cases hd : isDig a = true ∧ isDig b = true ∧ isDig c = true ∧ isDig d = true
  rotate_left
  ·simp [hd]
  rw [if_pos hd, if_pos hd]
  simp only [Option.bind_some]
  rw [key]
  by_cases he : e = 45
  ·subst he; rw [if_neg (by simp)]; exact timeBehind_is _ _
  ·rw [if_pos (by simpa using he)]; simp [markNum, he]
theorem clockOf_z (z : Bool) (form : UInt8) (hz : z = !decide (form = 32)) (y mo d : Int) (l : Bs) : clockOf z y mo d l false = clockP form y mo d l := by subst hz; exact clockOf_is _ _ _ _ _
theorem timesP_is (l : Bs) : timesP l = timeOf l := by
 rw [timeOf_is]
 unfold timesP parseP
 cases dateP l with
 | none => rfl
 | some a =>
  obtain ⟨y, mo, d, r⟩ := a
  simp only [Option.bind_some]
  rw [if_neg (by decide), if_neg (by decide), if_neg (by decide), if_pos True.intro]
  cases r with
  | nil => rfl
  | cons c t =>
   simp only [restP, timeRest]
   by_cases h1 : c = 84
   ·subst h1
    rw [if_pos rfl, if_neg (by decide), if_neg (by decide), if_neg (by decide), if_pos (Or.inl rfl), if_neg (by simp), clockOf_z true 84 (by decide)]
    simp
   by_cases h2 : c = 116
   ·subst h2
    rw [if_neg (by decide), if_pos rfl, if_neg (by decide), if_neg (by decide), if_pos (Or.inr rfl), if_neg (by simp), clockOf_z true 116 (by decide)]
    simp
   have hn : ¬ (c = 84 ∨ c = 116) := by rintro (h | h) <;> contradiction
   rw [if_neg h1, if_neg h2, if_neg hn, if_neg (show c :: t ≠ [] by simp)]
   by_cases h3 : c = 32
   ·subst h3
    simp only [clkBlanks, if_true]
    rw [clockOf_z false 32 (by decide)]
    simp
   ·simp only [clkBlanks, if_neg h3]
    rw [clockOf_bad]; rfl
end Go.Proofs.YtillamhoakohdaaGreatDoor
namespace Go.Proofs.YtillamhoakohdaaGreatDoor
def dig0 (ds : List UInt8) (i : Nat) : Nat := (ds[i]?.getD 0).toNat
def pre (ds : List UInt8) : Nat → Nat
 | 0 => 0
 | i + 1 => 10 * pre ds i + dig0 ds i
def decV (ds : List UInt8) : Nat := pre ds ds.length
def Dig (ds : List UInt8) : Prop := ∀ d ∈ ds, d.toNat < 10
theorem dig0_lt {ds : List UInt8} (h : Dig ds) (i : Nat) : dig0 ds i < 10 := by
 unfold dig0
 cases hi : ds[i]? with
 | none => decide
 | some d => exact h d (List.mem_of_getElem? hi)
theorem dig0_at {ds : List UInt8} {i : Nat} (hi : i < ds.length) : dig0 ds i = (ds[i]).toNat := by unfold dig0; rw [List.getElem?_eq_getElem hi]; rfl
theorem dig0_out {ds : List UInt8} {i : Nat} (hi : ds.length ≤ i) : dig0 ds i = 0 := by unfold dig0; rw [List.getElem?_eq_none hi]; rfl
theorem pre_lt {ds : List UInt8} (h : Dig ds) : ∀ i, pre ds i < 10 ^ i
 | 0 => Nat.one_pos
 | i + 1 => by
  have := pre_lt h i; have h2 := dig0_lt h i
  rw [pre, Nat.pow_succ]; omega
theorem pre_bd {ds : List UInt8} (h : Dig ds) (i : Nat) (hi : i ≤ 17) : pre ds i < 100000000000000000 := Nat.lt_of_lt_of_le (pre_lt h i) (Nat.le_trans (Nat.pow_le_pow_right (by omega) hi) (by decide))
theorem pre_append (o l : List UInt8) : ∀ i, i ≤ o.length → pre (o ++ l) i = pre o i
 | 0, _ => rfl
 | i + 1, h => by
  rw [pre, pre, pre_append o l i (by omega)]
  congr 1
  unfold dig0
  rw [List.getElem?_append_left (by omega)]
theorem decV_snoc (o : List UInt8) (d : UInt8) : decV (o ++ [d]) = 10 * decV o + d.toNat := by
 unfold decV
 rw [List.length_append, List.length_singleton, pre, pre_append _ _ _ (Nat.le_refl _)]
 congr 1
 unfold dig0
 rw [List.getElem?_append_right (Nat.le_refl _), Nat.sub_self]; rfl
theorem pre_out (ds : List UInt8) : ∀ n, pre ds (ds.length + n) = decV ds * 10 ^ n
 | 0 => by simp [decV]
 | n + 1 => by
  rw [← Nat.add_assoc, pre, pre_out ds n, dig0_out (by omega), Nat.pow_succ, Nat.add_zero, Nat.mul_comm 10, Nat.mul_assoc]
theorem pre_dvd (ds : List UInt8) (k j : Nat) (h : ds.length + k + 1 ≤ j) : 10 * 2 ^ k ∣ pre ds j := by
 obtain ⟨n, rfl⟩ : ∃ n, j = ds.length + (k + 1 + n) := ⟨j - ds.length - (k + 1), by omega⟩
 rw [pre_out]
 refine Nat.dvd_trans ?_ (Nat.dvd_mul_left _ _)
 rw [Nat.pow_add, Nat.pow_succ]
 refine Nat.dvd_trans ?_ (Nat.dvd_mul_right _ _)
 rw [Nat.mul_comm]
 refine Nat.mul_dvd_mul ?_ (Nat.dvd_refl _)
 rw [show 10 = 2 * 5 by rfl, Nat.mul_pow]
 exact Nat.dvd_mul_right _ _
theorem pre_mono {ds : List UInt8} (h0 : dig0 ds 0 ≠ 0) : ∀ j, 10 ^ j ≤ pre ds (j + 1)
 | 0 => by rw [pre, pre]; simp; omega
 | j + 1 => by
  have := pre_mono h0 j
  rw [pre, Nat.pow_succ]; omega
def trimR (l : List UInt8) : List UInt8 := (l.reverse.dropWhile (· = 0)).reverse
theorem trimR_nil : trimR [] = [] := rfl
theorem trimR_zero (l : List UInt8) : trimR (l ++ [0]) = trimR l := by simp [trimR]
theorem trimR_keep (l : List UInt8) (c : UInt8) (h : c ≠ 0) : trimR (l ++ [c]) = l ++ [c] := by simp [trimR, h]
theorem trimR_val : ∀ (n : Nat) (l : List UInt8), l.length = n → ∃ c, l.length = (trimR l).length + c ∧ decV l = decV (trimR l) * 10 ^ c ∧ l = trimR l ++ List.replicate c 0 ∧ (trimR l).getLast? ≠ some 0
 | 0, l, h => by
  obtain rfl := List.eq_nil_of_length_eq_zero h
  exact ⟨0, by simp [trimR], by simp [trimR], by simp [trimR], by simp [trimR]⟩
 | n + 1, l, h => by
  rcases List.eq_nil_or_concat l with rfl | ⟨l', d, rfl⟩
  ·simp at h
  ·rw [List.concat_eq_append] at *
   by_cases hd : d = 0
   ·subst hd
    obtain ⟨c, h1, h2, h3, h4⟩ := trimR_val n l' (by simpa using h)
    rw [trimR_zero]
    refine ⟨c + 1, by simp; omega, ?_, ?_, h4⟩
    ·rw [decV_snoc, h2, Nat.pow_succ, show (0 : UInt8).toNat = 0 from rfl, Nat.add_zero, Nat.mul_comm 10, Nat.mul_assoc]
    ·conv => lhs; rw [h3]
     rw [List.append_assoc, List.replicate_succ']
   ·rw [trimR_keep _ _ hd]
    exact ⟨0, by simp, by simp, by simp, by simp [hd]⟩
theorem trimR_dig {l : List UInt8} (h : Dig l) : Dig (trimR l) := fun d hd => by
 obtain ⟨c, _, _, h3, _⟩ := trimR_val _ l rfl
 exact h d (by rw [h3]; exact List.mem_append_left _ hd)
theorem trimR_head {l : List UInt8} (h : dig0 l 0 ≠ 0) : dig0 (trimR l) 0 = dig0 l 0 ∧ 0 < (trimR l).length := by
 obtain ⟨c, _, _, h3, _⟩ := trimR_val _ l rfl
 have : 0 < (trimR l).length := by
  rcases Nat.eq_zero_or_pos (trimR l).length with h4 | h4
  ·exfalso
   rw [List.length_eq_zero_iff.1 h4] at h3
   rw [h3] at h
   apply h
   unfold dig0
   cases c <;> simp
  ·exact h4
 refine ⟨?_, this⟩
 conv => rhs; rw [h3]
 unfold dig0
 rw [List.getElem?_append_left this]
def ival (K : Nat) (ds : List UInt8) (dp : Int) : Nat := decV ds * 10 ^ ((K : Int) + dp - ds.length).toNat
structure Canon (ds : List UInt8) : Prop where
 dig : Dig ds
 head : dig0 ds 0 ≠ 0
 last : ds.getLast? ≠ some 0
theorem Canon.pos {ds : List UInt8} (h : Canon ds) : 0 < ds.length := by
 have := h.head
 cases ds with
 | nil => exact absurd rfl this
 | cons _ _ => simp
theorem Canon.trim {o : List UInt8} (hd : Dig o) (h0 : dig0 o 0 ≠ 0) : Canon (trimR o) := by
 obtain ⟨c, _, _, _, h4⟩ := trimR_val _ o rfl
 exact ⟨trimR_dig hd, by rw [(trimR_head h0).1]; exact h0, h4⟩
structure Halved (k : Nat) (ds : List UInt8) (dp : Int) (ds' : List UInt8) (dp' : Int) : Prop where
 canon : Canon ds'
 frac : (ds'.length : Int) - dp' ≤ ds.length - dp + k
 val : ∀ K : Nat, 0 ≤ (K : Int) + dp - ds.length → 0 ≤ (K : Int) + dp' - ds'.length → ival K ds dp = 2 ^ k * ival K ds' dp'
theorem halved_of {k j jj : Nat} {ds o : List UInt8} {dp : Int} (hjj : ds.length ≤ jj) (hj : j ≤ jj) (hb : jj ≤ ds.length + k + 1) (ho : o.length = jj - j) (H : pre ds jj = 10 * 2 ^ k * decV o + 0 ∧ Dig o ∧ ((o = [] ∧ 2 ^ k ≤ 0) ∨ dig0 o 0 ≠ 0)) :
  Halved k ds dp (trimR o) (dp - ((j : Int) - 1)) := by
 have h0 : dig0 o 0 ≠ 0 := by
  rcases H.2.2 with ⟨_, h⟩ | h
  ·have : 0 < 2 ^ k := Nat.pow_pos (by omega)
   omega
  ·exact h
 obtain ⟨c, h1, h2, _, _⟩ := trimR_val _ o rfl
 refine ⟨Canon.trim H.2.1 h0, by omega, ?_⟩
 intro K hK1 hK2
 unfold ival
 obtain ⟨n, rfl⟩ : ∃ n, jj = ds.length + n := ⟨jj - ds.length, by omega⟩
 have e := H.1
 rw [pre_out, Nat.add_zero, h2] at e
 obtain ⟨E, hE⟩ : ∃ E : Nat, (E : Int) = (K : Int) + dp - ds.length := ⟨((K : Int) + dp - ds.length).toNat, by omega⟩
 obtain ⟨E', hE'⟩ : ∃ E' : Nat, (E' : Int) = (K : Int) + (dp - ((j : Int) - 1)) - (trimR o).length := ⟨((K : Int) + (dp - ((j : Int) - 1)) - (trimR o).length).toNat, by omega⟩
 rw [← hE, ← hE', Int.toNat_natCast, Int.toNat_natCast]
 refine Nat.eq_of_mul_eq_mul_right (show 0 < 10 ^ n from Nat.pow_pos (by omega)) ?_
 rw [Nat.mul_right_comm, e]
 have e3 : E' + n = c + E + 1 := by omega
 have e4 : 10 * 2 ^ k * (decV (trimR o) * 10 ^ c) * 10 ^ E = 2 ^ k * decV (trimR o) * 10 ^ (c + E + 1) := by
  rw [Nat.pow_succ, Nat.pow_add]; simp only [Nat.mul_assoc, Nat.mul_comm, Nat.mul_left_comm]
 rw [e4, ← e3, Nat.pow_add]
 simp only [Nat.mul_assoc]
end Go.Proofs.YtillamhoakohdaaGreatDoor
namespace Go.Proofs.YtillamhoakohdaaGreatDoor

theorem pre_cons (d : UInt8) (l : List UInt8) : ∀ i, pre (d :: l) (i + 1) = d.toNat * 10 ^ i + pre l i
 | 0 => by simp [pre, dig0]
 | i + 1 => by
  rw [pre, pre_cons d l i, pre, Nat.pow_succ]
  have : dig0 (d :: l) (i + 1) = dig0 l i := by unfold dig0; simp
  rw [this, Nat.mul_add, ← Nat.mul_assoc, ← Nat.mul_assoc, Nat.mul_comm 10 d.toNat, Nat.mul_assoc, Nat.mul_comm 10 (10 ^ i), ← Nat.mul_assoc]
  omega
theorem decV_cons (d : UInt8) (l : List UInt8) : decV (d :: l) = d.toNat * 10 ^ l.length + decV l := pre_cons d l l.length
def sfx (ds : List UInt8) : Nat → Nat
 | 0 => 0
 | p + 1 => sfx ds p + (if p < ds.length then dig0 ds (ds.length - 1 - p) * 10 ^ p else 0)
theorem sfx_drop (ds : List UInt8) : ∀ p, p ≤ ds.length → sfx ds p = decV (ds.drop (ds.length - p))
 | 0, _ => by simp [sfx, decV, pre]
 | p + 1, h => by
  rw [sfx, if_pos (by omega), sfx_drop ds p (by omega), List.drop_eq_getElem_cons (show ds.length - (p + 1) < ds.length by omega), decV_cons]
  rw [List.length_drop, show ds.length - (p + 1) + 1 = ds.length - p by omega, show ds.length - (ds.length - p) = p by omega]
  rw [dig0_at (show ds.length - 1 - p < ds.length by omega)]
  have : ds[ds.length - 1 - p]'(by omega) = ds[ds.length - (p + 1)]'(by omega) := by congr 1; omega
  rw [this]; omega
theorem sfx_all (ds : List UInt8) : ∀ n, sfx ds (ds.length + n) = decV ds
 | 0 => by rw [Nat.add_zero, sfx_drop ds _ (Nat.le_refl _), Nat.sub_self, List.drop_zero]
 | n + 1 => by rw [← Nat.add_assoc, sfx, if_neg (by omega), sfx_all ds n, Nat.add_zero]
def DblInv (k : Nat) (ds : List UInt8) (p nn : Nat) (o : List UInt8) : Prop :=
 decV o.reverse + nn * 10 ^ p = sfx ds p * 2 ^ k ∧ Dig o ∧ o.length = p ∧ (ds.length ≤ p → nn * 10 ^ (p - ds.length) < 2 ^ k ∧ (nn = 0 → dig0 o.reverse 0 ≠ 0))
theorem dbl_step {k p nn : Nat} {ds o : List UInt8} {d : UInt8} (hc : dig0 ds 0 ≠ 0) (h : DblInv k ds p nn o) (hn : nn < 2 ^ k) (x : Nat)
  (hx : x = nn + (if p < ds.length then dig0 ds (ds.length - 1 - p) * 2 ^ k else 0)) (hpos : ds.length ≤ p → 0 < nn) (hlen : 0 < ds.length) (hds : Dig ds) (hd : d.toNat = x % 10) :
  DblInv k ds (p + 1) (x / 10) (o ++ [d]) ∧ x / 10 < 2 ^ k := by
 obtain ⟨h1, h2, h3, h4⟩ := h
 have hx2 : x < 10 * 2 ^ k := by
  rw [hx]
  split
  ·have := dig0_lt hds (ds.length - 1 - p)
   have : dig0 ds (ds.length - 1 - p) * 2 ^ k ≤ 9 * 2 ^ k := Nat.mul_le_mul_right _ (by omega)
   omega
  ·omega
 refine ⟨⟨?_, ?_, by simp [h3], ?_⟩, by omega⟩
 ·rw [List.reverse_append, List.reverse_singleton, List.singleton_append, decV_cons, List.length_reverse, h3, hd, sfx, Nat.add_mul, ← h1, Nat.pow_succ]
  have e := Nat.div_add_mod' x 10
  have e2 : x % 10 * 10 ^ p + x / 10 * (10 ^ p * 10) = x * 10 ^ p := by
   conv => rhs; rw [← e]
   rw [Nat.add_mul, Nat.mul_comm (10 ^ p) 10, ← Nat.mul_assoc]; omega
  have e3 : x * 10 ^ p = nn * 10 ^ p + (if p < ds.length then dig0 ds (ds.length - 1 - p) * 10 ^ p else 0) * 2 ^ k := by
   rw [hx, Nat.add_mul]
   congr 1
   split
   ·simp only [Nat.mul_assoc, Nat.mul_comm, Nat.mul_left_comm]
   ·simp
  omega
 ·intro y hy
  rcases List.mem_append.1 hy with h | h
  ·exact h2 y h
  ·rw [List.mem_singleton.1 h, hd]; omega
 ·intro hp
  rw [List.reverse_append, List.reverse_singleton, List.singleton_append]
  have hx0 : 0 < x := by
   rw [hx]
   by_cases hp2 : p < ds.length
   ·rw [if_pos hp2, show ds.length - 1 - p = 0 by omega]
    have : 0 < dig0 ds 0 * 2 ^ k := Nat.mul_pos (by omega) (Nat.pow_pos (by omega))
    omega
   ·have := hpos (by omega); omega
  constructor
  ·by_cases hp2 : p < ds.length
   ·rw [show p + 1 - ds.length = 0 by omega]; simp; omega
   ·have h5 := (h4 (by omega)).1
    rw [if_neg hp2, Nat.add_zero] at hx
    subst hx
    refine Nat.lt_of_le_of_lt ?_ h5
    rw [show p + 1 - ds.length = (p - ds.length) + 1 by omega, Nat.pow_succ, Nat.mul_comm (10 ^ _) 10, ← Nat.mul_assoc]
    exact Nat.mul_le_mul_right _ (by omega)
  ·intro h0
   show d.toNat ≠ 0
   rw [hd]; omega
structure Doubled (k : Nat) (ds : List UInt8) (dp : Int) (ds' : List UInt8) (dp' : Int) : Prop where
 canon : Canon ds'
 frac : (ds'.length : Int) - dp' ≤ ds.length - dp
 val : ∀ K : Nat, 0 ≤ (K : Int) + dp - ds.length → ival K ds' dp' = 2 ^ k * ival K ds dp
theorem doubled_of {k p : Nat} {ds o : List UInt8} {dp : Int} (hp : ds.length ≤ p) (h : DblInv k ds p 0 o) : Doubled k ds dp (trimR o.reverse) (dp + ((p : Int) - ds.length)) := by
 obtain ⟨h1, h2, h3, h4⟩ := h
 have h0 := (h4 hp).2 rfl
 obtain ⟨c, e1, e2, _, _⟩ := trimR_val _ o.reverse rfl
 rw [List.length_reverse, h3] at e1
 refine ⟨Canon.trim (fun d hd => h2 d (List.mem_reverse.1 hd)) h0, by omega, ?_⟩
 intro K hK
 unfold ival
 obtain ⟨n, rfl⟩ : ∃ n, p = ds.length + n := ⟨p - ds.length, by omega⟩
 rw [sfx_all, Nat.zero_mul, Nat.add_zero, e2] at h1
 have e3 : ((K : Int) + (dp + (((ds.length + n : Nat) : Int) - ds.length)) - (trimR o.reverse).length).toNat = c + ((K : Int) + dp - ds.length).toNat := by omega
 rw [e3, Nat.pow_add, ← Nat.mul_assoc, h1, Nat.mul_comm (decV ds), Nat.mul_assoc]
def Turned (o l : List UInt8) (t : Nat) : Prop :=
 l.length = o.length ∧ ∀ x, x < o.length → l[x]? = if x < t ∨ o.length < x + 1 + t then o[o.length - 1 - x]? else o[x]?
theorem turned_start (o : List UInt8) : Turned o o 0 := ⟨rfl, fun x hx => by rw [if_neg (by omega)]⟩
theorem turned_end {o l : List UInt8} {t : Nat} (h : Turned o l t) (ht : o.length ≤ 2 * t + 1) : l = o.reverse := by
 apply List.ext_getElem?
 intro x
 by_cases hx : x < o.length
 ·rw [h.2 x hx, List.getElem?_reverse hx]
  split
  ·rfl
  ·congr 1; omega
 ·rw [List.getElem?_eq_none (by rw [h.1]; omega), List.getElem?_eq_none (by simp; omega)]
theorem turned_step {o l : List UInt8} {t : Nat} (h : Turned o l t) (ht : 2 * t + 1 < o.length) (a b : UInt8) (ha : l[o.length - 1 - t]? = some a) (hb : l[t]? = some b) :
  Turned o ((l.set t a).set (o.length - 1 - t) b) (t + 1) := by
 refine ⟨by simp [h.1], ?_⟩
 intro x hx
 have hl := h.1
 rw [h.2 _ (by omega), if_neg (by omega)] at ha
 rw [h.2 _ (by omega), if_neg (by omega)] at hb
 rw [List.getElem?_set, List.getElem?_set]
 by_cases h1 : o.length - 1 - t = x
 ·rw [if_pos h1, if_pos (by simp; omega), if_pos (by omega), ← hb]; congr 1; omega
 ·rw [if_neg h1]
  by_cases h2 : t = x
  ·rw [if_pos h2, if_pos (by omega), if_pos (by omega), ← ha]; congr 1; omega
  ·rw [if_neg h2, h.2 x hx]
   by_cases h3 : x < t ∨ o.length < x + 1 + t
   ·rw [if_pos h3, if_pos (by omega)]
   ·rw [if_neg h3, if_neg (by omega)]
end Go.Proofs.YtillamhoakohdaaGreatDoor

/-
  Plain functions: what a plain text is, what a text is under a tag. Walks: the reference's reading of a plain text. The library's ParseFloat comes in as a hypothesis. Ground: what the reading of a plain text gives; the block of a result. Walks: the program's numbers of times. Walks: the reference's reading of a plain text, whole.
-/
import Derived.Laws.FloatArith
import Derived.Test.YtillamhoakohdaaGreatDoorM02
import Derived.Test.YtillamhoakohdaaGreatDoorM04
import Derived.Test.YtillamhoakohdaaGreatDoorM05
import Derived.Test.YtillamhoakohdaaGreatDoorM06
import Derived.Test.YtillamhoakohdaaGreatDoorM09
import Derived.Test.YtillamhoakohdaaGreatDoorM10
set_option linter.unusedVariables false
set_option linter.unusedSimpArgs false
namespace Go.Proofs.YtillamhoakohdaaGreatDoor
open Go.RowKit

def tStr : Bs := [33, 33, 115, 116, 114]
def tInt : Bs := [33, 33, 105, 110, 116]
def tFloat : Bs := [33, 33, 102, 108, 111, 97, 116]
def tNull : Bs := [33, 33, 110, 117, 108, 108]
def tBool : Bs := [33, 33, 98, 111, 111, 108]
def tTime : Bs := [33, 33, 116, 105, 109, 101, 115, 116, 97, 109, 112]

noncomputable def numOf (l : Bs) : Bs × PV :=
 match whole (bare l) with
 | some v => (tInt, v)
 | none => match (if real (bare l) = true then pf (bare l) else none) with
  | some n => (tFloat, .flt n)
  | none => (tStr, .txt l)
noncomputable def plainOf (tm : Bool) (l : Bs) : Bs × PV :=
 match wordOf l with
 | some x => x
 | none =>
  match l with
  | [] => (tStr, .txt [])
  | c :: r =>
   if c = 46 then (match pf (c :: r) with | some n => (tFloat, .flt n) | none => (tStr, .txt (c :: r)))
   else if isDig c = true ∨ c = 45 ∨ c = 43 then
    (match (if tm = true then timeOf (c :: r) else none) with | some a => (tTime, .tim a) | none => numOf (c :: r))
   else (tStr, .txt (c :: r))
noncomputable def underOf (t l : Bs) : Option (Bs × PV) :=
 if t = [] ∨ t = tStr ∨ t = tBool ∨ t = tInt ∨ t = tFloat ∨ t = tNull ∨ t = tTime then
  let f := if t = tStr then (tStr, PV.txt l) else plainOf (decide (t = [] ∨ t = tTime)) l
  if t = [] ∨ t = f.1 ∨ t = tStr then some f
  else if t = tFloat then (match f.2 with | .int i => some (tFloat, .flt (floatOfInt .f64 i)) | _ => none) else none
 else some (t, .txt l)

def lead (l : Bs) : Prop := l.head? = some 46 ∨ real l = true
def PFPost (l : Bs) (w : World) (e : Ending) (w' : World) : Prop := Below w.heap.size w w' ∧ ∃ (n : Nat) (err : Value), e = .returned (.tuple #[.float .f64 n, err]) ∧
 ((err = .nilIface ∧ (lead l → pf l = some n)) ∨ ((∃ t v, err = .iface t v) ∧ (lead l → pf l = none)))
def PFContract (f : FuncId) : Prop := ∀ (s : ByteArray) (l : Bs) (w : World), Glob w → StrIs s l → s.size ≤ 200 → Calls Tryz.prog f #[.string s, .int .i64 64] w (PFPost l w)
def PFLight (f : FuncId) : Prop := ∀ (s : ByteArray) (l : Bs) (w : World), StrIs s l → s.size ≤ 200 → lead l → Calls Tryz.prog f #[.string s, .int .i64 64] w (PFPost l w)
end Go.Proofs.YtillamhoakohdaaGreatDoor
namespace Go.Proofs.YtillamhoakohdaaGreatDoor
open Go.RowKit
attribute [local go_sem] setCell_drewN

def ParsedPost (l : Bs) (w : World) (e : Ending) (w' : World) : Prop := Below w.heap.size w w' ∧ ∃ (n : Nat) (ok : Bool), e = .returned (.tuple #[.float .f64 n, .bool ok]) ∧ (lead l → pf l = if ok = true then some n else none)
theorem ylParsed_of (H : PFContract 50) (s : ByteArray) (l : Bs) (w : World) (HG : Glob w) (hl : StrIs s l) (hs : s.size ≤ 200) : Calls Tryz.prog 26 #[.string s] w (ParsedPost l w) := by
 go_enter Tryz.func26, Tryz.ntmps26
 go_wp2_with fail
 refine (H s l _ HG hl hs).mono ?_
 rintro e w' ⟨hb, n, err, rfl, (⟨rfl, hn⟩ | ⟨⟨t, v, rfl⟩, hn⟩)⟩
 ·have HN := Lib.hid hn
  clear hn
  go_wp2
  go_quiet (fail)
  go_wp2
  go_ret2
  exact ⟨below_drewN hb _, n, true, rfl, fun h => by rw [HN.out h]; rfl⟩
 ·have HN := Lib.hid hn
  clear hn
  go_wp2
  go_quiet (fail)
  go_wp2
  go_ret2
  exact ⟨below_drewN hb _, n, false, rfl, fun h => by rw [HN.out h]; rfl⟩
end Go.Proofs.YtillamhoakohdaaGreatDoor
namespace Go.Proofs.YtillamhoakohdaaGreatDoor
open Go.RowKit

def PlainPost (x : Bs × PV) (w : World) (e : Ending) (w' : World) : Prop := Below w.heap.size w w' ∧ ∃ s v, StrIs s x.1 ∧ VIs x.2 v ∧ e = .returned (.tuple #[.string s, v])
theorem VIs.agg {p : PV} {v : Value} (h : VIs p v) : ∃ k b i u f t a0 a1 a2 a3 a4 a5 a6 a7, v = .agg (vCells k b i u f t a0 a1 a2 a3 a4 a5 a6 a7) := by
 cases h <;> exact ⟨_, _, _, _, _, _, _, _, _, _, _, _, _, _, rfl⟩

def G5 (w W : World) : Prop := W.heap[w.heap.size]? = some (.cells z28 28 (0, 0)) ∧ Below w.heap.size w W
theorem G5.new (w : World) : G5 w (w.alloc (.cells z28 28 (0, 0))) := ⟨heap_alloc_new _ _, (Below.refl _ _).alloc (Nat.le_refl _) _⟩
theorem G5.lt {w W : World} (h : G5 w W) : w.heap.size < W.heap.size := lt_of_heap h.1
theorem G5.step {w W W' : World} (h : G5 w W) (hb : Below W.heap.size W W') : G5 w W' := ⟨hg_below hb h.lt h.1, h.2.trans (hb.mono (Nat.le_of_lt h.lt))⟩
theorem G5.alloc {w W : World} (h : G5 w W) (o : Obj) : G5 w (W.alloc o) := ⟨hg_alloc h.1, h.2.alloc (Nat.le_of_lt h.lt) _⟩
theorem cells8 {W : World} {g : Nat} {ty : TypeId} {fr : Nat × Nat} {a0 a1 a2 a3 a4 a5 a6 a7 : Int} (h : W.heap[g]? = some (.cells (tCells a0 a1 a2 a3 a4 a5 a6 a7) ty fr)) :
  W.cell? ⟨g, 0, none⟩ = some (.int .i64 a0) ∧ W.cell? ⟨g, 1, none⟩ = some (.int .i64 a1) ∧ W.cell? ⟨g, 2, none⟩ = some (.int .i64 a2) ∧ W.cell? ⟨g, 3, none⟩ = some (.int .i64 a3) ∧ W.cell? ⟨g, 4, none⟩ = some (.int .i64 a4) ∧ W.cell? ⟨g, 5, none⟩ = some (.int .i64 a5) ∧ W.cell? ⟨g, 6, none⟩ = some (.int .i64 a6) ∧ W.cell? ⟨g, 7, none⟩ = some (.int .i64 a7) :=
 ⟨cellv h 0 _ rfl, cellv h 1 _ rfl, cellv h 2 _ rfl, cellv h 3 _ rfl, cellv h 4 _ rfl, cellv h 5 _ rfl, cellv h 6 _ rfl, cellv h 7 _ rfl⟩
end Go.Proofs.YtillamhoakohdaaGreatDoor
namespace Go.Proofs.YtillamhoakohdaaGreatDoor
open Go.RowKit

def digAt (l : Bs) (i : Nat) : Bool := match l[i]? with | some c => isDig c | none => false
theorem digit_any (s : ByteArray) (l : Bs) (i : Nat) (w : World) (hl : StrIs s l) (hs : s.size ≤ 1000) :
  Calls Tryz.prog 125 #[.string s, .int .i64 i] w fun e w' => e = .returned (.bool (digAt l i)) ∧ w = w' := by
 by_cases hi : i < s.size
 ·have hii : (i : Int) < (s.size : Int) := by omega
  have hget := hl.get i hi
  have hd : digAt l i = isDig s[i] := by unfold digAt; rw [hget]
  rw [hd]
  have h0 : (0 : Int) ≤ (i : Int) := by omega
  clear hget hl hd
  by_cases h48 : 48 ≤ s[i].toNat
  ·have g1 : (48 : Int) ≤ (s[i].toNat : Int) := by omega
   by_cases h57 : s[i].toNat ≤ 57
   ·have g2 : (s[i].toNat : Int) ≤ 57 := by omega
    have hx : isDig s[i] = true := by simp [isDig]; omega
    rw [hx]
    clear hx
    go_enter Tryz.func125, Tryz.ntmps125
    go_wp2
    go_ret
    exact ⟨rfl, rfl⟩
   ·have g2 : decide ((s[i].toNat : Int) ≤ 57) = false := by simp; omega
    have g3 : (57 : Int) < (s[i].toNat : Int) := by omega
    have hx : isDig s[i] = false := by simp [isDig]; omega
    rw [hx]
    clear hx
    go_enter Tryz.func125, Tryz.ntmps125
    go_wp2
    go_ret
    exact ⟨rfl, rfl⟩
  ·have g1 : decide ((48 : Int) ≤ (s[i].toNat : Int)) = false := by simp; omega
   have g3 : (s[i].toNat : Int) < (48 : Int) := by omega
   have hx : isDig s[i] = false := by simp [isDig]; omega
   rw [hx]
   clear hx
   go_enter Tryz.func125, Tryz.ntmps125
   go_wp2
   go_ret
   exact ⟨rfl, rfl⟩
 ·have hii : decide ((i : Int) < (s.size : Int)) = false := by simp; omega
  have hij : (s.size : Int) ≤ (i : Int) := by omega
  have hd : digAt l i = false := by
   unfold digAt
   rw [List.getElem?_eq_none (by rw [← hl.size]; omega)]
  rw [hd]
  clear hl hd hi
  go_enter Tryz.func125, Tryz.ntmps125
  go_wp2
  go_ret
  exact ⟨rfl, rfl⟩

theorem digAt_cons {l : Bs} (h : digAt l 0 = true) : ∃ c r, l = c :: r := by
 cases l with
 | nil => simp [digAt] at h
 | cons c r => exact ⟨c, r, rfl⟩
def NumPost (l : Bs) (w : World) (e : Ending) (w' : World) : Prop := Below w.heap.size w w' ∧ ∃ r, StrIs r (num2 l).2.2 ∧ e = .returned (.tuple #[.int .i64 (num2 l).1, .string r, .bool (decide ((num2 l).2.1 ≠ 0))])
theorem number_any (s : ByteArray) (l : Bs) (w : World) (hl : StrIs s l) (hs : s.size ≤ 1000) : Calls Tryz.prog 123 #[.string s] w (NumPost l w) := by
 go_enter Tryz.func123, Tryz.ntmps123
 go_wp2_with fail
 refine (digit_any s l 0 _ hl hs).mono ?_
 rintro e w' ⟨rfl, rfl⟩
 cases hd0 : digAt l 0
 ·have h : num2 l = (0, 0, l) := by
   match l, hd0 with
   | [], _ => rfl
   | [c], h => simp [digAt] at h; simp [num2, h]
   | c :: c2 :: r, h => simp [digAt] at h; simp [num2, h]
  have H := Lib.hid h
  have HL := Lib.hid hl
  clear h hd0 hl
  go_wp2
  go_ret3
  exact ⟨Below.refl _ _, s, by rw [H.out]; exact HL.out, by rw [H.out]; rfl⟩
 obtain ⟨c, l1, hlc⟩ := digAt_cons hd0
 have hc : isDig c = true := by rw [hlc] at hd0; exact hd0
 have hp : 0 < s.size := by rw [hl.size, hlc]; simp
 have hpi : (0 : Int) < (s.size : Int) := by omega
 have HB0 : Hid (s[0] = c) := Lib.hid (by have := hl.get 0 hp; rw [hlc] at this; simp at this; exact this.symm)
 have hcd : 48 ≤ c.toNat ∧ c.toNat ≤ 57 := by simpa [isDig] using hc
 have g1 : (48 : Int) ≤ (s[0].toNat : Int) := by rw [HB0.out]; omega
 have g2 : (s[0].toNat : Int) ≤ 57 := by rw [HB0.out]; omega
 have HLC := Lib.hid hlc
 have HC := Lib.hid hc
 clear hlc hc hcd hd0
 go_wp2_with fail
 refine (digit_any s l 1 _ hl hs).mono ?_
 rintro e w' ⟨rfl, rfl⟩
 cases hd1 : digAt l 1
 ·have h : Hid (num2 l = (dig c, 1, l1)) := Lib.hid (by
   rw [HLC.out] at hd1 ⊢
   cases l1 with
   | nil => simp [num2, HC.out]
   | cons c2 r => simp [digAt] at hd1; simp [num2, HC.out, hd1])
  have hdr := Lib.hid (hl.drop 1)
  clear hd1 hl
  go_wp2
  go_quiet (fail)
  go_wp2
  go_ret3
  exact ⟨below_drewN (Below.refl _ _) _, _, by rw [h.out]; have := hdr.out; rw [HLC.out] at this; exact this, by rw [h.out]; simp only [dig, ← HB0.out]; rfl⟩
 ·obtain ⟨c2, r, hl1⟩ : ∃ c2 r, l1 = c2 :: r := by
   rw [HLC.out] at hd1
   cases l1 with
   | nil => simp [digAt] at hd1
   | cons a b => exact ⟨a, b, rfl⟩
  have hc2 : isDig c2 = true := by rw [HLC.out, hl1] at hd1; exact hd1
  have hq : 1 < s.size := by rw [hl.size, HLC.out, hl1]; simp
  have hqi : (1 : Int) < (s.size : Int) := by omega
  have HB1 : Hid (s[1] = c2) := Lib.hid (by have := hl.get 1 hq; rw [HLC.out, hl1] at this; simp at this; exact this.symm)
  have hcd : 48 ≤ c2.toNat ∧ c2.toNat ≤ 57 := by simpa [isDig] using hc2
  have g3 : (48 : Int) ≤ (s[1].toNat : Int) := by rw [HB1.out]; omega
  have g4 : (s[1].toNat : Int) ≤ 57 := by rw [HB1.out]; omega
  have h : Hid (num2 l = (10 * dig c + dig c2, 2, r)) := Lib.hid (by rw [HLC.out, hl1]; simp [num2, HC.out, hc2])
  have hdr := Lib.hid (hl.drop 2)
  have HL1 := Lib.hid hl1
  have hq2 : (2 : Int) ≤ (s.size : Int) := by omega
  clear hd1 hl hl1 hc2 hcd
  go_wp2
  go_quiet (fail)
  go_wp2
  go_ret3
  exact ⟨below_drewN (Below.refl _ _) _, _, by rw [h.out]; have := hdr.out; rw [HLC.out, HL1.out] at this; exact this, by rw [h.out]; simp only [dig, ← HB0.out, ← HB1.out]; go_num⟩
set_option maxHeartbeats 2000000 in
theorem days_any (y m : Int) (w : World) (hy0 : 0 ≤ y) (hy1 : y ≤ 9999) (hm0 : 0 ≤ m) (hm1 : m ≤ 99) :
  Calls Tryz.prog 126 #[.int .i64 y, .int .i64 m] w fun e w' => e = .returned (.int .i64 (daysOf y m)) ∧ w = w' := by
 by_cases h2 : m = 2
 ·have e : daysOf y m = if y.tmod 4 = 0 ∧ (y.tmod 100 ≠ 0 ∨ y.tmod 400 = 0) then 29 else 28 := by simp [daysOf, h2]
  have E := Lib.hid e
  clear e
  subst h2
  have q4 : y.tmod 4 = y % 4 := Int.tmod_eq_emod_of_nonneg hy0
  have q100 : y.tmod 100 = y % 100 := Int.tmod_eq_emod_of_nonneg hy0
  have q400 : y.tmod 400 = y % 400 := Int.tmod_eq_emod_of_nonneg hy0
  have E2 : Hid (daysOf y 2 = if y % 4 = 0 ∧ (y % 100 ≠ 0 ∨ y % 400 = 0) then 29 else 28) := Lib.hid (by rw [E.out, q4, q100, q400])
  clear q4 q100 q400 E
  by_cases a4 : y % 4 = 0
  ·have b4 : (y % 4 == 0) = true := by simpa using a4
   by_cases a100 : y % 100 = 0
   ·have b100 : (y % 100 != 0) = false := by simpa using a100
    have b100' : (y % 100 == 0) = true := by simpa using a100
    by_cases a400 : y % 400 = 0
    ·have b400 : (y % 400 == 0) = true := by simpa using a400
     have E3 : Hid (daysOf y 2 = 29) := Lib.hid (by rw [E2.out, if_pos ⟨a4, .inr a400⟩])
     clear a4 a100 a400
     go_enter Tryz.func126, Tryz.ntmps126
     go_wp2
     go_ret
     exact ⟨ret_int (by rw [E3.out]), rfl⟩
    ·have b400 : (y % 400 == 0) = false := by simpa using a400
     have E3 : Hid (daysOf y 2 = 28) := Lib.hid (by rw [E2.out, if_neg (by rintro ⟨_, h | h⟩ <;> contradiction)])
     clear a4 a100 a400
     go_enter Tryz.func126, Tryz.ntmps126
     go_wp2
     go_ret
     exact ⟨ret_int (by rw [E3.out]), rfl⟩
   ·have b100 : (y % 100 != 0) = true := by simpa using a100
    have b100' : (y % 100 == 0) = false := by simpa using a100
    have E3 : Hid (daysOf y 2 = 29) := Lib.hid (by rw [E2.out, if_pos ⟨a4, .inl a100⟩])
    clear a4 a100
    go_enter Tryz.func126, Tryz.ntmps126
    go_wp2
    go_ret
    exact ⟨ret_int (by rw [E3.out]), rfl⟩
  ·have b4 : (y % 4 == 0) = false := by simpa using a4
   have E3 : Hid (daysOf y 2 = 28) := Lib.hid (by rw [E2.out, if_neg (by rintro ⟨h, _⟩; contradiction)])
   clear a4
   go_enter Tryz.func126, Tryz.ntmps126
   go_wp2
   go_ret
   exact ⟨ret_int (by rw [E3.out]), rfl⟩
 ·have k2 : (m == 2) = false := by simpa using h2
  have e : daysOf y m = if m = 4 ∨ m = 6 ∨ m = 9 ∨ m = 11 then 30 else 31 := by simp [daysOf, h2]
  have E := Lib.hid e
  clear e h2
  by_cases h4 : m = 4
  ·have k4 : (m == 4) = true := by simpa using h4
   have E3 : Hid (daysOf y m = 30) := Lib.hid (by rw [E.out, if_pos (by omega)])
   clear h4
   go_enter Tryz.func126, Tryz.ntmps126
   go_wp2
   go_ret
   exact ⟨ret_int (by rw [E3.out]), rfl⟩
  have k4 : (m == 4) = false := by simpa using h4
  by_cases h6 : m = 6
  ·have k6 : (m == 6) = true := by simpa using h6
   have E3 : Hid (daysOf y m = 30) := Lib.hid (by rw [E.out, if_pos (by omega)])
   clear h4 h6
   go_enter Tryz.func126, Tryz.ntmps126
   go_wp2
   go_ret
   exact ⟨ret_int (by rw [E3.out]), rfl⟩
  have k6 : (m == 6) = false := by simpa using h6
  by_cases h9 : m = 9
  ·have k9 : (m == 9) = true := by simpa using h9
   have E3 : Hid (daysOf y m = 30) := Lib.hid (by rw [E.out, if_pos (by omega)])
   clear h4 h6 h9
   go_enter Tryz.func126, Tryz.ntmps126
   go_wp2
   go_ret
   exact ⟨ret_int (by rw [E3.out]), rfl⟩
  have k9 : (m == 9) = false := by simpa using h9
  by_cases h11 : m = 11
  ·have k11 : (m == 11) = true := by simpa using h11
   have E3 : Hid (daysOf y m = 30) := Lib.hid (by rw [E.out, if_pos (by omega)])
   clear h4 h6 h9 h11
   go_enter Tryz.func126, Tryz.ntmps126
   go_wp2
   go_ret
   exact ⟨ret_int (by rw [E3.out]), rfl⟩
  have k11 : (m == 11) = false := by simpa using h11
  have E3 : Hid (daysOf y m = 31) := Lib.hid (by rw [E.out, if_neg (by omega)])
  clear h4 h6 h9 h11
  go_enter Tryz.func126, Tryz.ntmps126
  go_wp2
  go_ret
  exact ⟨ret_int (by rw [E3.out]), rfl⟩
end Go.Proofs.YtillamhoakohdaaGreatDoor
namespace Go.Proofs.YtillamhoakohdaaGreatDoor
open Go.RowKit
attribute [local go_sem] setCell_drewN

theorem plain_word {tm : Bool} {l : Bs} {x : Bs × PV} (h : wordOf l = some x) : plainOf tm l = x := by unfold plainOf; rw [h]
theorem word_nil : wordOf [] = some ([33, 33, 110, 117, 108, 108], .nul) := by unfold wordOf; rw [if_pos (.inl rfl)]
theorem word_none {l : Bs} (h : wordOf l = none) : ∃ c r, l = c :: r := by
 cases l with
 | nil => rw [word_nil] at h; cases h
 | cons c r => exact ⟨c, r, rfl⟩
theorem plain_dot {tm : Bool} {l r : Bs} (h : wordOf l = none) (e : l = 46 :: r) : plainOf tm l = (match pf l with | some n => (tFloat, .flt n) | none => (tStr, .txt l)) := by
 subst e; unfold plainOf; rw [h]; rfl
theorem plain_num {tm : Bool} {l r : Bs} {c : UInt8} (h : wordOf l = none) (e : l = c :: r) (h1 : c ≠ 46) (h2 : isDig c = true ∨ c = 45 ∨ c = 43) :
  plainOf tm l = (match (if tm = true then timeOf l else none) with | some a => (tTime, .tim a) | none => numOf l) := by
 subst e; unfold plainOf; rw [h]; simp only [if_neg h1, if_pos h2] <;> (generalize (if tm = true then timeOf (c :: r) else none) = z; cases z <;> rfl)
theorem plain_else {tm : Bool} {l r : Bs} {c : UInt8} (h : wordOf l = none) (e : l = c :: r) (h1 : c ≠ 46) (h2 : ¬ (isDig c = true ∨ c = 45 ∨ c = 43)) : plainOf tm l = (tStr, .txt l) := by
 subst e; unfold plainOf; rw [h]; simp only [if_neg h1, if_neg h2]

set_option maxRecDepth 100000 in
set_option maxHeartbeats 20000000 in
theorem ylPlain_word (HP : PFContract 50) (tg s : ByteArray) (t l : Bs) (w : World) (HG : Glob w) (ht : StrIs tg t) (hl : StrIs s l) (hs : s.size ≤ 200) (x : Bs × PV) (hx : wordOf l = some x) :
  Calls Tryz.prog 15 #[.string tg, .string s] w (PlainPost (plainOf (decide (t = [] ∨ t = tTime)) l) w) := by
 go_enter Tryz.func15, Tryz.ntmps15
 go_wp2_with fail
 refine (ylWord_any s l _ hl).mono ?_
 rintro e W1 ⟨hb1, ⟨tw, pv, sw, v, hw, htw, hv, rfl⟩ | ⟨hw, rfl⟩⟩
 ·have T : Hid (plainOf (decide (t = [] ∨ t = tTime)) l = (tw, pv)) := Lib.hid (plain_word hw)
  have HTW := Lib.hid htw
  clear hw ht hl htw
  obtain ⟨k, b, i, u, f, x, a0, a1, a2, a3, a4, a5, a6, a7, hva⟩ := hv.agg
  rw [hva]
  rw [hva] at hv
  have HV := Lib.hid hv
  clear hv hva
  go_upto_region 2 with (refine store28 rfl _ _ rfl _ _ rfl rfl (by rfl) (by rfl) 28 _ (heap_alloc_new _ _) (by rfl) ?_; rw [World.setRow_alloc_new])
  have hg7 := heap_alloc_new W1 (.cells (vCells k b i u f x a0 a1 a2 a3 a4 a5 a6 a7) 28 (0, 0))
  have hg5 : (W1.alloc (.cells (vCells k b i u f x a0 a1 a2 a3 a4 a5 a6 a7) 28 (0, 0))).heap[w.heap.size]? = some (.cells z28 28 (0, 0)) := hg_alloc (hg_below hb1 (by simp) (heap_alloc_new w (.cells z28 28 (0, 0))))
  have hB : Below w.heap.size w (W1.alloc (.cells (vCells k b i u f x a0 a1 a2 a3 a4 a5 a6 a7) 28 (0, 0))) := (((Below.refl _ _).alloc (Nat.le_refl _) _).trans (hb1.mono (by simp))).alloc (by have := hb1.size; simp at this; omega) _
  clear hb1
  generalize W1.heap.size = g7 at *
  generalize hW : World.alloc W1 _ = W2 at *
  have hW2 : World.alloc W1 (.cells #[.int .i64 k, .bool b, .int .i64 i, .int .u64 u, .int .u64 f, .string x, .int .i64 a0, .int .i64 a1, .int .i64 a2, .int .i64 a3, .int .i64 a4, .int .i64 a5, .int .i64 a6, .int .i64 a7, .slice none 0 0, .slice none 0 0] 28 (0, 0)) = W2 := hW
  try rw [hW2]
  clear hW hW2
  obtain ⟨hd0, hd1, hd2, hd3, hd4, hd5, hd6, hd7, hd8, hd9, hd10, hd11, hd12, hd13, hd14, hd15⟩ := cells16 hg7
  obtain ⟨hz0, hz1, hz2, hz3, hz4, hz5, hz6, hz7, hz8, hz9, hz10, hz11, hz12, hz13, hz14, hz15⟩ := cells16 (k := 0) (b := false) (i := 0) (u := 0) (f := 0) (t := ⟨#[]⟩) (a0 := 0) (a1 := 0) (a2 := 0) (a3 := 0) (a4 := 0) (a5 := 0) (a6 := 0) (a7 := 0) hg5
  obtain ⟨hy0, hy1, hy2, hy3, hy4, hy5, hy6, hy7, hy8, hy9, hy10, hy11, hy12, hy13, hy14, hy15⟩ := froz16 hg5
  go_upto_region 3 with fail
  go_region
  go_wp2
  exact bodyPost_ret (v := .tuple #[.string sw, .agg (vCells k b i u f x a0 a1 a2 a3 a4 a5 a6 a7)]) (results_x28 Tryz.results15 _ _ _ _ _ _ rfl (hg_drewN (n := 1) (put16_fin ⟨hg5, hB⟩ (Nat.le_refl _) k b i u f x a0 a1 a2 a3 a4 a5 a6 a7).1) rfl) rfl
   ⟨below_drewN (put16_fin ⟨hg5, hB⟩ (Nat.le_refl _) k b i u f x a0 a1 a2 a3 a4 a5 a6 a7).2 1, sw, _, by rw [T.out]; exact HTW.out, by rw [T.out]; exact HV.out, rfl⟩
 ·rw [hx] at hw; cases hw
set_option maxRecDepth 100000 in
set_option maxHeartbeats 20000000 in
theorem ylPlain_b (HP : PFContract 50) (tg s : ByteArray) (t l : Bs) (w : World) (HG : Glob w) (ht : StrIs tg t) (hl : StrIs s l) (hs : s.size ≤ 200) (hx : wordOf l = none) (hk : Hid (∀ i, whole (bare l) ≠ some (.uint i))) :
  Calls Tryz.prog 15 #[.string tg, .string s] w (PlainPost (plainOf (decide (t = [] ∨ t = tTime)) l) w) := by
 go_enter Tryz.func15, Tryz.ntmps15
 go_wp2_with fail
 refine (ylWord_any s l _ hl).mono ?_
 rintro e W1 ⟨hb1, ⟨tw, pv, sw, v, hw, htw, hv, rfl⟩ | ⟨hw, rfl⟩⟩
 ·rw [hx] at hw; cases hw
 have hG1 := G5.step (G5.new w) hb1
 clear hb1
 obtain ⟨c, r, hlc⟩ := word_none hw
 have hp : 0 < s.size := by rw [hl.size, hlc]; simp
 have hpi : (0 : Int) < (s.size : Int) := by omega
 have HB0 : Hid (s[0] = c) := Lib.hid (by have := hl.get 0 hp; rw [hlc] at this; simp at this; exact this.symm)
 have HL := Lib.hid hl
 have HW := Lib.hid hw
 have HT := Lib.hid ht
 have HLC := Lib.hid hlc
 clear hl hw ht hlc
 go_upto_region 4 with (refine store28 rfl _ _ rfl _ _ rfl rfl (by rfl) (by rfl) 28 _ (heap_alloc_new _ _) (by rfl) ?_; rw [World.setRow_alloc_new])
 have hG2 := hG1.alloc (.cells z28 28 (0, 0))
 clear hG1
 generalize hW : World.alloc W1 _ = W2 at *
 change World.alloc W1 (.cells #[.int .i64 0, .bool false, .int .i64 0, .int .u64 0, .int .u64 0, .string ⟨#[]⟩, .int .i64 0, .int .i64 0, .int .i64 0, .int .i64 0, .int .i64 0, .int .i64 0, .int .i64 0, .int .i64 0, .slice none 0 0, .slice none 0 0] 28 (0, 0)) = W2 at hW
 try rw [hW]
 clear hW
 by_cases hc : c = 46
 ·have T0 : Hid (plainOf (decide (t = [] ∨ t = tTime)) l = (match pf l with | some n => (tFloat, .flt n) | none => (tStr, .txt l))) := Lib.hid (plain_dot HW.out (by rw [HLC.out, hc]))
  have f1 : ((s[0].toNat : Int) == 46) = true := byte_eq (c := s[0]) (d := 46) (by rw [HB0.out, hc])
  have hld : lead l := .inl (by rw [HLC.out, hc]; rfl)
  clear hc
  go_wp2_with fail
  refine (ylParsed_of HP s l _ (HG.below hG2.2) HL.out hs).mono ?_
  rintro e W3 ⟨hb3, n, ok, rfl, hpf⟩
  have hG3 := hG2.step hb3
  have hpf := hpf hld
  clear hb3 hG2 hld
  cases ok
  ·have T : Hid (plainOf (decide (t = [] ∨ t = tTime)) l = (tStr, .txt l)) := Lib.hid (by rw [T0.out, hpf]; rfl)
   clear hpf T0
   go_wp2_with fail
   refine (textOf_any s _).mono ?_
   rintro e Wz ⟨rfl, hbz⟩
   have hgz := (hG3.step hbz)
   clear hbz
   go_wp2_with (refine store28 rfl _ _ rfl _ _ rfl rfl (by rfl) (by rfl) 28 _ hgz.1 (by rfl) ?_)
   exact bodyPost_ret (v := .tuple #[.string ⟨#[33, 33, 115, 116, 114]⟩, .agg (vCells 5 false 0 0 0 s 0 0 0 0 0 0 0 0)]) (results_x28 Tryz.results15 _ _ _ _ _ _ rfl (row28_set _ _ _ _ hgz.1) rfl) rfl
    ⟨below_setRow hgz.2 (Nat.le_refl _), _, _, by rw [T.out]; rfl, by rw [T.out]; exact VIs.txt s l HL.out, rfl⟩
  ·have T : Hid (plainOf (decide (t = [] ∨ t = tTime)) l = (tFloat, .flt n)) := Lib.hid (by rw [T0.out, hpf]; rfl)
   clear hpf T0
   go_wp2_with fail
   refine (floatOf_any n _).mono ?_
   rintro e Wz ⟨rfl, hbz⟩
   have hgz := (hG3.step hbz)
   clear hbz
   go_wp2_with (refine store28 rfl _ _ rfl _ _ rfl rfl (by rfl) (by rfl) 28 _ hgz.1 (by rfl) ?_)
   exact bodyPost_ret (v := .tuple #[.string ⟨#[33, 33, 102, 108, 111, 97, 116]⟩, .agg (vCells 4 false 0 0 n ⟨#[]⟩ 0 0 0 0 0 0 0 0)]) (results_x28 Tryz.results15 _ _ _ _ _ _ rfl (row28_set _ _ _ _ hgz.1) rfl) rfl
    ⟨below_setRow hgz.2 (Nat.le_refl _), _, _, by rw [T.out]; rfl, by rw [T.out]; exact VIs.flt n, rfl⟩
 have f1 : ((s[0].toNat : Int) == 46) = false := byte_ne (c := s[0]) (d := 46) (by rw [HB0.out]; exact hc)
 by_cases hn : isDig c = true ∨ c = 45 ∨ c = 43
 rotate_left
 ·have T : Hid (plainOf (decide (t = [] ∨ t = tTime)) l = (tStr, .txt l)) := Lib.hid (plain_else HW.out HLC.out hc hn)
  have f2 : ((s[0].toNat : Int) == 45) = false := byte_ne (c := s[0]) (d := 45) (by rw [HB0.out]; exact fun h => hn (.inr (.inl h)))
  have f3 : ((s[0].toNat : Int) == 43) = false := byte_ne (c := s[0]) (d := 43) (by rw [HB0.out]; exact fun h => hn (.inr (.inr h)))
  have hnd : ¬ (48 ≤ c.toNat ∧ c.toNat ≤ 57) := fun h => hn (.inl (by simp [isDig, h]))
  clear hn
  go_upto_region 9 with fail
  go_cut [41] (fun v wc => v = .bool false ∧ W2 = wc)
  case first =>
   by_cases h48 : 48 ≤ c.toNat
   ·have g1 : (48 : Int) ≤ (s[0].toNat : Int) := by rw [HB0.out]; omega
    have g2 : decide ((s[0].toNat : Int) ≤ 57) = false := by rw [HB0.out]; simp; omega
    have g3 : (57 : Int) < (s[0].toNat : Int) := by rw [HB0.out]; omega
    clear hnd h48
    go_wp2
    go_meet
    case rel => exact ⟨rfl, rfl⟩
   ·have g1 : decide ((48 : Int) ≤ (s[0].toNat : Int)) = false := by rw [HB0.out]; simp; omega
    have g3 : (s[0].toNat : Int) < (48 : Int) := by rw [HB0.out]; omega
    clear hnd h48
    go_wp2
    go_meet
    case rel => exact ⟨rfl, rfl⟩
  case rest =>
  obtain ⟨rfl, rfl⟩ := hcut
  go_wp2_with fail
  refine (textOf_any s _).mono ?_
  rintro e Wz ⟨rfl, hbz⟩
  have hgz := (hG2.step hbz)
  clear hbz
  go_wp2_with (refine store28 rfl _ _ rfl _ _ rfl rfl (by rfl) (by rfl) 28 _ hgz.1 (by rfl) ?_)
  exact bodyPost_ret (v := .tuple #[.string ⟨#[33, 33, 115, 116, 114]⟩, .agg (vCells 5 false 0 0 0 s 0 0 0 0 0 0 0 0)]) (results_x28 Tryz.results15 _ _ _ _ _ _ rfl (row28_set _ _ _ _ hgz.1) rfl) rfl
   ⟨below_setRow hgz.2 (Nat.le_refl _), _, _, by rw [T.out]; rfl, by rw [T.out]; exact VIs.txt s l HL.out, rfl⟩
 have T0 : Hid (plainOf (decide (t = [] ∨ t = tTime)) l = (match (if decide (t = [] ∨ t = tTime) = true then timeOf l else none) with | some a => (tTime, .tim a) | none => numOf l)) := Lib.hid (plain_num HW.out HLC.out hc hn)
 go_upto_region 9 with fail
 go_cut [41] (fun v wc => v = .bool true ∧ W2 = wc)
 case first =>
  rcases hn with hn | hn | hn
  ·have hnd : 48 ≤ c.toNat ∧ c.toNat ≤ 57 := by simpa [isDig] using hn
   have g1 : (48 : Int) ≤ (s[0].toNat : Int) := by rw [HB0.out]; omega
   have g2 : (s[0].toNat : Int) ≤ 57 := by rw [HB0.out]; omega
   clear hnd hn hc
   go_wp2
   go_meet
   case rel => exact ⟨rfl, rfl⟩
  ·have g1 : decide ((48 : Int) ≤ (s[0].toNat : Int)) = false := by rw [HB0.out, hn]; decide
   have g3 : (s[0].toNat : Int) < (48 : Int) := by rw [HB0.out, hn]; decide
   have f2 : ((s[0].toNat : Int) == 45) = true := byte_eq (c := s[0]) (d := 45) (by rw [HB0.out, hn])
   clear hn hc
   go_wp2
   go_meet
   case rel => exact ⟨rfl, rfl⟩
  ·have g1 : decide ((48 : Int) ≤ (s[0].toNat : Int)) = false := by rw [HB0.out, hn]; decide
   have g3 : (s[0].toNat : Int) < (48 : Int) := by rw [HB0.out, hn]; decide
   have f2 : ((s[0].toNat : Int) == 45) = false := byte_ne (c := s[0]) (d := 45) (by rw [HB0.out, hn]; decide)
   have f3 : ((s[0].toNat : Int) == 43) = true := byte_eq (c := s[0]) (d := 43) (by rw [HB0.out, hn])
   clear hn hc
   go_wp2
   go_meet
   case rel => exact ⟨rfl, rfl⟩
 case rest =>
 obtain ⟨rfl, rfl⟩ := hcut
 clear hn hc
 go_wp2_with fail
 refine (ylTime_any s l _ HL.out (Nat.le_trans hs (by decide))).mono ?_
 rintro e W3 ⟨hb3, t0, t1, t2, t3, t4, t5, t6, t7, rfl, hti⟩
 have hG3 := hG2.step hb3
 clear hb3 hG2
 have HTI := Lib.hid hti
 clear hti
 go_upto_region 11 with (refine store25 rfl _ _ rfl _ _ rfl rfl (by rfl) (by rfl) 25 _ (heap_alloc_new _ _) (by rfl) ?_; rw [World.setRow_alloc_new])
 have hg12 := heap_alloc_new W3 (.cells (tCells t0 t1 t2 t3 t4 t5 t6 t7) 25 (0, 0))
 have hG4 := hG3.alloc (.cells (tCells t0 t1 t2 t3 t4 t5 t6 t7) 25 (0, 0))
 clear hG3
 generalize W3.heap.size = g12 at *
 generalize hW : World.alloc W3 _ = W4 at *
 change World.alloc W3 (.cells #[.int .i64 t0, .int .i64 t1, .int .i64 t2, .int .i64 t3, .int .i64 t4, .int .i64 t5, .int .i64 t6, .int .i64 t7] 25 (0, 0)) = W4 at hW
 try rw [hW]
 clear hW
 generalize hbs : (timeOf l).isSome = bs at *
 have HBS := Lib.hid hbs
 clear hbs
 go_cut [69] (fun v wc => v = .bool (bs && decide (t = [] ∨ t = tTime)) ∧ W4 = wc)
 case first =>
  cases bs
  ·go_wp2
   go_meet
   case rel => exact ⟨rfl, rfl⟩
  ·by_cases h1 : t = []
   ·have e1 : tg.toList.isEmpty = true := by rw [Lib.toList_data, HT.out, h1]; rfl
    go_wp2
    go_meet
    case rel => exact ⟨by simp [h1], rfl⟩
   ·have e1 : tg.toList.isEmpty = false := by rw [Lib.toList_data, HT.out]; cases t with | nil => exact absurd rfl h1 | cons a b => rfl
    by_cases h2 : t = tTime
    ·have e2 : (tg.toList == [33, 33, 116, 105, 109, 101, 115, 116, 97, 109, 112]) = true := by rw [Lib.toList_data, HT.out, h2]; rfl
     go_wp2
     go_meet
     case rel => exact ⟨by simp [h2], rfl⟩
    ·have e2 : (tg.toList == [33, 33, 116, 105, 109, 101, 115, 116, 97, 109, 112]) = false := by rw [Lib.toList_data, HT.out]; exact beq_false_of_ne h2
     go_wp2
     go_meet
     case rel => exact ⟨by simp [h1, h2], rfl⟩
 case rest =>
 obtain ⟨rfl, rfl⟩ := hcut
 generalize htm : decide (t = [] ∨ t = tTime) = tm at *
 clear htm
 cases hbt : (bs && tm)
 rotate_left
 ·have T : Hid (plainOf tm l = (tTime, .tim [t0, t1, t2, t3, t4, t5, t6, t7])) := Lib.hid (by
   obtain ⟨h1, h2⟩ := Bool.and_eq_true_iff.1 hbt
   obtain ⟨x, hx⟩ := Option.isSome_iff_exists.1 (HBS.out.trans h1)
   rw [T0.out, if_pos h2, hx, HTI.out x hx])
  clear hbt T0 HTI HBS
  obtain ⟨hd0, hd1, hd2, hd3, hd4, hd5, hd6, hd7⟩ := cells8 hg12
  have hg5 := hG4.1
  obtain ⟨hz0, hz1, hz2, hz3, hz4, hz5, hz6, hz7, hz8, hz9, hz10, hz11, hz12, hz13, hz14, hz15⟩ := cells16 (k := 0) (b := false) (i := 0) (u := 0) (f := 0) (t := ⟨#[]⟩) (a0 := 0) (a1 := 0) (a2 := 0) (a3 := 0) (a4 := 0) (a5 := 0) (a6 := 0) (a7 := 0) hg5
  obtain ⟨hy0, hy1, hy2, hy3, hy4, hy5, hy6, hy7, hy8, hy9, hy10, hy11, hy12, hy13, hy14, hy15⟩ := froz16 hg5
  go_upto_region 12 with fail
  go_region
  go_wp2
  exact bodyPost_ret (v := .tuple #[.string ⟨#[33, 33, 116, 105, 109, 101, 115, 116, 97, 109, 112]⟩, .agg (vCells 9 false 0 0 0 ⟨#[]⟩ t0 t1 t2 t3 t4 t5 t6 t7)]) (results_x28 Tryz.results15 _ _ _ _ _ _ rfl (hg_drewN (n := 1) (put16_fin hG4 (Nat.le_refl _) 9 false 0 0 0 ⟨#[]⟩ t0 t1 t2 t3 t4 t5 t6 t7).1) rfl) rfl
   ⟨below_drewN (put16_fin hG4 (Nat.le_refl _) 9 false 0 0 0 ⟨#[]⟩ t0 t1 t2 t3 t4 t5 t6 t7).2 1, _, _, by rw [T.out]; rfl, by rw [T.out]; exact VIs.tim t0 t1 t2 t3 t4 t5 t6 t7, rfl⟩
 have T1 : Hid (plainOf tm l = numOf l) := Lib.hid (by
  rw [T0.out]
  have : (if tm = true then timeOf l else none) = none := by
   cases tm
   ·rfl
   ·cases bs
    ·have := HBS.out; rw [if_pos rfl]; cases h : timeOf l with | none => rfl | some a => rw [h] at this; cases this
    ·cases hbt
  rw [this])
 clear hbt T0 HTI HBS hg12
 go_wp2_with fail
 refine (ylBare_any s l _ HL.out (Nat.le_trans hs (by decide))).mono ?_
 rintro e W4b ⟨hb4, rb, hrb, rfl⟩
 have hG4b := hG4.step hb4
 clear hb4 hG4
 have hrs : rb.size ≤ 200 := by
  have h1 := hrb.size
  have h2 : (bare l).length ≤ l.length := List.length_filter_le _ _
  have h3 := HL.out.size
  omega
 have HRB := Lib.hid hrb
 clear hrb
 go_wp2_with fail
 refine (ylWhole_any rb (bare l) _ HRB.out (by unfold maxLen; omega)).mono ?_
 rintro e W5 ⟨hb5, ⟨hwh, rfl⟩ | ⟨i, hwh, rfl⟩ | ⟨i, hwh, rfl⟩⟩
 rotate_left
 ·have T : Hid (plainOf tm l = (tInt, .int i)) := Lib.hid (by rw [T1.out]; unfold numOf; rw [hwh])
  have hG5 := hG4b.step hb5
  clear T1 hb5 hG4b hwh
  go_upto_region 15 with (refine store28 rfl _ _ rfl _ _ rfl rfl (by rfl) (by rfl) 28 _ (heap_alloc_new _ _) (by rfl) ?_; rw [World.setRow_alloc_new])
  have hg7 := heap_alloc_new W5 (.cells (vCells 2 false i 0 0 ⟨#[]⟩ 0 0 0 0 0 0 0 0) 28 (0, 0))
  have hG6 := hG5.alloc (.cells (vCells 2 false i 0 0 ⟨#[]⟩ 0 0 0 0 0 0 0 0) 28 (0, 0))
  clear hG5
  generalize W5.heap.size = g15 at *
  generalize hW : World.alloc W5 _ = W6 at *
  change World.alloc W5 (.cells #[.int .i64 2, .bool false, .int .i64 i, .int .u64 0, .int .u64 0, .string ⟨#[]⟩, .int .i64 0, .int .i64 0, .int .i64 0, .int .i64 0, .int .i64 0, .int .i64 0, .int .i64 0, .int .i64 0, .slice none 0 0, .slice none 0 0] 28 (0, 0)) = W6 at hW
  try rw [hW]
  clear hW
  have hg5 := hG6.1
  obtain ⟨hd0, hd1, hd2, hd3, hd4, hd5, hd6, hd7, hd8, hd9, hd10, hd11, hd12, hd13, hd14, hd15⟩ := cells16 hg7
  obtain ⟨hz0, hz1, hz2, hz3, hz4, hz5, hz6, hz7, hz8, hz9, hz10, hz11, hz12, hz13, hz14, hz15⟩ := cells16 (k := 0) (b := false) (i := 0) (u := 0) (f := 0) (t := ⟨#[]⟩) (a0 := 0) (a1 := 0) (a2 := 0) (a3 := 0) (a4 := 0) (a5 := 0) (a6 := 0) (a7 := 0) hg5
  obtain ⟨hy0, hy1, hy2, hy3, hy4, hy5, hy6, hy7, hy8, hy9, hy10, hy11, hy12, hy13, hy14, hy15⟩ := froz16 hg5
  go_upto_region 16 with fail
  go_region
  go_wp2
  exact bodyPost_ret (v := .tuple #[.string ⟨#[33, 33, 105, 110, 116]⟩, .agg (vCells 2 false i 0 0 ⟨#[]⟩ 0 0 0 0 0 0 0 0)]) (results_x28 Tryz.results15 _ _ _ _ _ _ rfl (hg_drewN (n := 1) (put16_fin hG6 (Nat.le_refl _) 2 false i 0 0 ⟨#[]⟩ 0 0 0 0 0 0 0 0).1) rfl) rfl
   ⟨below_drewN (put16_fin hG6 (Nat.le_refl _) 2 false i 0 0 ⟨#[]⟩ 0 0 0 0 0 0 0 0).2 1, _, _, by rw [T.out]; rfl, by rw [T.out]; exact VIs.int i, rfl⟩
 ·exact absurd hwh (hk.out i)
 have T2 : Hid (plainOf tm l = (match (if real (bare l) = true then pf (bare l) else none) with | some n => (tFloat, .flt n) | none => (tStr, .txt l))) := Lib.hid (by rw [T1.out]; unfold numOf; rw [hwh] <;> rfl)
 have hG5 := hG4b.step hb5
 clear T1 hb5 hG4b hwh
 go_upto_region 17 with (refine store28 rfl _ _ rfl _ _ rfl rfl (by rfl) (by rfl) 28 _ (heap_alloc_new _ _) (by rfl) ?_; rw [World.setRow_alloc_new])
 have hG6 := hG5.alloc (.cells z28 28 (0, 0))
 clear hG5
 generalize hW : World.alloc W5 _ = W6 at *
 change World.alloc W5 (.cells #[.int .i64 0, .bool false, .int .i64 0, .int .u64 0, .int .u64 0, .string ⟨#[]⟩, .int .i64 0, .int .i64 0, .int .i64 0, .int .i64 0, .int .i64 0, .int .i64 0, .int .i64 0, .int .i64 0, .slice none 0 0, .slice none 0 0] 28 (0, 0)) = W6 at hW
 try rw [hW]
 clear hW
 go_wp2_with fail
 refine (ylParsed_of HP rb (bare l) _ (HG.below hG6.2) HRB.out hrs).mono ?_
 rintro e W7 ⟨hb7, n, ok, rfl, hpf⟩
 have hG7 := hG6.step hb7
 clear hb7 hG6
 cases ok
 ·have T : Hid (plainOf tm l = (tStr, .txt l)) := Lib.hid (by
   rw [T2.out]
   by_cases hr : real (bare l) = true
   ·rw [if_pos hr, hpf (.inr hr)]; rfl
   ·rw [if_neg hr])
  clear hpf T2
  go_wp2_with fail
  refine (textOf_any s _).mono ?_
  rintro e Wz ⟨rfl, hbz⟩
  have hgz := (hG7.step hbz)
  clear hbz
  go_wp2_with (refine store28 rfl _ _ rfl _ _ rfl rfl (by rfl) (by rfl) 28 _ hgz.1 (by rfl) ?_)
  exact bodyPost_ret (v := .tuple #[.string ⟨#[33, 33, 115, 116, 114]⟩, .agg (vCells 5 false 0 0 0 s 0 0 0 0 0 0 0 0)]) (results_x28 Tryz.results15 _ _ _ _ _ _ rfl (row28_set _ _ _ _ hgz.1) rfl) rfl
   ⟨below_setRow hgz.2 (Nat.le_refl _), _, _, by rw [T.out]; rfl, by rw [T.out]; exact VIs.txt s l HL.out, rfl⟩
 go_wp2_with fail
 refine (ylReal_any rb (bare l) _ HRB.out (Nat.le_trans hrs (by decide))).mono ?_
 rintro e W8 ⟨rfl, hb8⟩
 have hG8 := hG7.step hb8
 clear hb8 hG7
 cases hr : real (bare l)
 ·have T : Hid (plainOf tm l = (tStr, .txt l)) := Lib.hid (by rw [T2.out, hr]; rfl)
  clear hpf T2 hr
  go_wp2_with fail
  refine (textOf_any s _).mono ?_
  rintro e Wz ⟨rfl, hbz⟩
  have hgz := (hG8.step hbz)
  clear hbz
  go_wp2_with (refine store28 rfl _ _ rfl _ _ rfl rfl (by rfl) (by rfl) 28 _ hgz.1 (by rfl) ?_)
  exact bodyPost_ret (v := .tuple #[.string ⟨#[33, 33, 115, 116, 114]⟩, .agg (vCells 5 false 0 0 0 s 0 0 0 0 0 0 0 0)]) (results_x28 Tryz.results15 _ _ _ _ _ _ rfl (row28_set _ _ _ _ hgz.1) rfl) rfl
   ⟨below_setRow hgz.2 (Nat.le_refl _), _, _, by rw [T.out]; rfl, by rw [T.out]; exact VIs.txt s l HL.out, rfl⟩
 ·have T : Hid (plainOf tm l = (tFloat, .flt n)) := Lib.hid (by rw [T2.out, hr, if_pos rfl, hpf (.inr hr)]; rfl)
  clear hpf T2 hr
  go_wp2_with fail
  refine (floatOf_any n _).mono ?_
  rintro e Wz ⟨rfl, hbz⟩
  have hgz := (hG8.step hbz)
  clear hbz
  go_wp2_with (refine store28 rfl _ _ rfl _ _ rfl rfl (by rfl) (by rfl) 28 _ hgz.1 (by rfl) ?_)
  exact bodyPost_ret (v := .tuple #[.string ⟨#[33, 33, 102, 108, 111, 97, 116]⟩, .agg (vCells 4 false 0 0 n ⟨#[]⟩ 0 0 0 0 0 0 0 0)]) (results_x28 Tryz.results15 _ _ _ _ _ _ rfl (row28_set _ _ _ _ hgz.1) rfl) rfl
   ⟨below_setRow hgz.2 (Nat.le_refl _), _, _, by rw [T.out]; rfl, by rw [T.out]; exact VIs.flt n, rfl⟩
end Go.Proofs.YtillamhoakohdaaGreatDoor

/-
  Walks: the program's times, one form.
-/
import Derived.Test.YtillamhoakohdaaGreatDoorM01
import Derived.Test.YtillamhoakohdaaGreatDoorM11
set_option linter.unusedVariables false
set_option linter.unusedSimpArgs false
namespace Go.Proofs.YtillamhoakohdaaGreatDoor
open Go.RowKit

theorem info61 : (Tryz.prog.info? 61).map (·.size) = some 8 := by kernel_rfl
theorem results_61 {fn : Func} {p u : Tmp} (h : fn.results = #[.cell p 61, .tmp u]) (tmps : Array Value) (w : World) (g : Nat) (t : TypeId) (cs : Array Value) (fr : Nat × Nat)
  (hp : tmps.getD p undef = .pointer (some ⟨g, 0, none⟩)) (hg : w.heap[g]? = some (.cells cs t fr)) (hn : cs.size = 8) :
  (results fn tmps).run Tryz.prog w = .ok (.tuple #[.agg cs, tmps.getD u undef]) w := by
 rw [results_cell_tmp h, hp]
 have h2 := run_loadVar_row (P := Tryz.prog) w g t 61 cs fr _ hg Tryz.underlying61 rfl (by rw [info61, hn])
 simp [asAddr, Result.andThen, h2]
theorem store61 {ops : Array Oper} {rest : List Oper} {o : Oper} {a : Act} {w : World} {Q : Exit → Act → World → Prop} (hgd : o.guard = none) (x y : Operand) (ho : o.op = .store 61 x y)
  (g : Nat) (cells : Array Value) (hx : a.eval x = .pointer (some ⟨g, 0, none⟩)) (hy : a.eval y = .agg cells) (hc : cells.size = 8) (h1 : cells.toList.all (·.oneCell') = true)
  (t : TypeId) (old : Array Value) (hg : w.heap[g]? = some (.cells old t (0, 0))) (hold : old.size = 8)
  (h : wpList Tryz.prog ops Q rest (a.put o.dst undef) (w.setRow g cells)) : wpList Tryz.prog ops Q (o :: rest) a w :=
 wpList_store_row hgd 61 x y ho g cells hx hy t old hg (by rw [info61, hc]) (by rw [hold, hc]) (by rw [← Array.all_toList]; exact h1) h
theorem load61 {ops : Array Oper} {rest : List Oper} {o : Oper} {a : Act} {w : World} {Q : Exit → Act → World → Prop} (hgd : o.guard = none) (x : Operand) (ho : o.op = .load 61 x)
  (g : Nat) (hx : a.eval x = .pointer (some ⟨g, 0, none⟩)) (t : TypeId) (cs : Array Value) (fr : Nat × Nat) (hg : w.heap[g]? = some (.cells cs t fr)) (hc : cs.size = 8)
  (h : wpList Tryz.prog ops Q rest (a.put o.dst (.agg cs)) w) : wpList Tryz.prog ops Q (o :: rest) a w :=
 wpList_load_row hgd 61 x ho g hx t cs fr _ hg Tryz.underlying61 rfl (by rw [info61, hc]) h

def ParsePost (x : Option (List Int)) (w : World) (e : Ending) (w' : World) : Prop := Below w.heap.size w w' ∧
 ∃ a0 a1 a2 a3 a4 a5 a6 a7, e = .returned (.tuple #[.agg (tCells a0 a1 a2 a3 a4 a5 a6 a7), .bool x.isSome]) ∧ ∀ y, x = some y → y = [a0, a1, a2, a3, a4, a5, a6, a7]

def TS (w W : World) (a0 a1 a2 a3 a4 a5 a6 a7 : Int) : Prop := W.heap[w.heap.size]? = some (.cells (tCells a0 a1 a2 a3 a4 a5 a6 a7) 61 (0, 0)) ∧ Below w.heap.size w W
theorem TS.step {w W W' : World} {a0 a1 a2 a3 a4 a5 a6 a7 : Int} (h : TS w W a0 a1 a2 a3 a4 a5 a6 a7) (hb : Below W.heap.size W W') : TS w W' a0 a1 a2 a3 a4 a5 a6 a7 :=
 ⟨hg_below hb (lt_of_heap h.1) h.1, h.2.trans (hb.mono (Nat.le_of_lt (lt_of_heap h.1)))⟩
theorem TS.drew {w W : World} {a0 a1 a2 a3 a4 a5 a6 a7 : Int} (h : TS w W a0 a1 a2 a3 a4 a5 a6 a7) : TS w W.drew a0 a1 a2 a3 a4 a5 a6 a7 := h.step ⟨rfl, rfl, rfl, Nat.le_refl _, fun _ _ => rfl⟩
theorem TS.drewN {w W : World} {a0 a1 a2 a3 a4 a5 a6 a7 : Int} (h : TS w W a0 a1 a2 a3 a4 a5 a6 a7) (n : Nat) : TS w (W.drewN n) a0 a1 a2 a3 a4 a5 a6 a7 := h.step ⟨rfl, rfl, rfl, Nat.le_refl _, fun _ _ => rfl⟩
theorem TS.cell {w W : World} {a0 a1 a2 a3 a4 a5 a6 a7 : Int} (h : TS w W a0 a1 a2 a3 a4 a5 a6 a7) (i : Nat) (v : Value) (hv : (tCells a0 a1 a2 a3 a4 a5 a6 a7)[i]? = some v) : W.cell? ⟨w.heap.size, i, none⟩ = some v ∧ W.frozen? ⟨w.heap.size, i, none⟩ = false :=
 ⟨cellv h.1 i v hv, frozen_of_row _ _ i _ _ h.1⟩
theorem TS.set {w W : World} {a0 a1 a2 a3 a4 a5 a6 a7 : Int} (h : TS w W a0 a1 a2 a3 a4 a5 a6 a7) {b0 b1 b2 b3 b4 b5 b6 b7 : Int} (i : Nat) (v : Value) (hv : (tCells a0 a1 a2 a3 a4 a5 a6 a7).setIfInBounds i v = tCells b0 b1 b2 b3 b4 b5 b6 b7) : TS w (W.setCell ⟨w.heap.size, i, none⟩ v) b0 b1 b2 b3 b4 b5 b6 b7 :=
 ⟨hv ▸ heap_setCell_same _ _ _ _ _ _ h.1, h.2.setCell (Nat.le_refl _) v⟩
theorem TS.fin {w W : World} {a0 a1 a2 a3 a4 a5 a6 a7 : Int} (h : TS w W a0 a1 a2 a3 a4 a5 a6 a7) : TS w (W.setRow w.heap.size (tCells a0 a1 a2 a3 a4 a5 a6 a7)) a0 a1 a2 a3 a4 a5 a6 a7 :=
 ⟨row28_set _ _ _ _ h.1, below_setRow h.2 (Nat.le_refl _)⟩

theorem dig_at {s : ByteArray} {l : Bs} {i : Nat} {b : Bool} (hl : StrIs s l) (hs : s.size ≤ 1000) (h : digAt l i = b) (j : Int) (hj : j = i) : Hid (∀ w, Calls Tryz.prog 125 #[.string s, .int .i64 j] w fun e w' => e = .returned (.bool b) ∧ w = w') :=
 Lib.hid (fun w => by subst hj; exact h ▸ digit_any s l i w hl hs)
theorem num_at {d : ByteArray} {D nr : Bs} {nv : Int} {nn : Nat} {b : Bool} (hl : StrIs d D) (hs : d.size ≤ 1000) (hN : num2 D = (nv, nn, nr)) (hb : decide (nn ≠ 0) = b) :
  Hid (∀ w, Calls Tryz.prog 123 #[.string d] w fun e w' => Below w.heap.size w w' ∧ ∃ r, Hid (StrIs r nr) ∧ r.size ≤ 1000 ∧ e = .returned (.tuple #[.int .i64 nv, .string r, .bool b])) :=
 Lib.hid (fun w => (number_any d D w hl hs).mono (by
  rintro e w' ⟨hB, r, hr, rfl⟩
  have h1 := num2_len D
  rw [hN] at hr h1 ⊢
  refine ⟨hB, r, Lib.hid hr, ?_, by simp only [hb]⟩
  have := hr.size
  have := hl.size
  simp only at *
  omega))
theorem nd_true {p : Prop} [Decidable p] (h : false = !decide p) : p := by
 by_cases hp : p
 ·exact hp
 ·simp [hp] at h
theorem nd_false {p : Prop} [Decidable p] (h : true = !decide p) : ¬ p := by
 by_cases hp : p
 ·simp [hp] at h
 ·exact hp
def szOf : Value → Nat | .string s => s.size | _ => 0
theorem num2_of {D nr : Bs} {nv : Int} {nn : Nat} (hN : num2 D = (nv, nn, nr)) : 0 ≤ nv ∧ nv ≤ 99 := by have := num2_bd D; rw [hN] at this; exact this
theorem neq_yes {c d : UInt8} (h : c ≠ d) : ((c.toNat : Int) != (d.toNat : Int)) = true := by rw [byte_neq]; simp [h]
theorem neq_no {c d : UInt8} (h : c = d) : ((c.toNat : Int) != (d.toNat : Int)) = false := by rw [byte_neq]; simp [h]
theorem emp_yes {d : ByteArray} (h : StrIs d []) : d.toList.isEmpty = true := by rw [Lib.toList_data, h]; rfl
theorem emp_no {d : ByteArray} {c : UInt8} {r : Bs} (h : StrIs d (c :: r)) : d.toList.isEmpty = false := by rw [Lib.toList_data, h]; rfl
def yk (l : Bs) : Nat → Int
 | 0 => 0
 | k + 1 => yk l k * 10 + dig (l.getD k 0)
theorem yk_bd (l : Bs) : ∀ k, (∀ i, i < k → digAt l i = true) → 0 ≤ yk l k ∧ yk l k < 10 ^ k
 | 0, _ => by simp [yk]
 | k + 1, h => by
  have h1 := yk_bd l k (fun i hi => h i (by omega))
  have h2 := h k (by omega)
  have h3 : isDig (l.getD k 0) = true := by
   unfold digAt at h2; rw [List.getD_eq_getElem?_getD]
   cases hk : l[k]? with
   | none => rw [hk] at h2; cases h2
   | some c => rw [hk] at h2; exact h2
  have h4 := dig_bd h3
  have e : (10 : Int) ^ (k + 1) = 10 ^ k * 10 := Int.pow_succ _ _
  unfold yk
  rw [e]
  omega
theorem yr_no {l : Bs} (h : yr l = none) : digAt l 0 = false ∨ (digAt l 0 = true ∧ digAt l 1 = false) ∨ (digAt l 0 = true ∧ digAt l 1 = true ∧ digAt l 2 = false) ∨ (digAt l 0 = true ∧ digAt l 1 = true ∧ digAt l 2 = true ∧ digAt l 3 = false) := by
 match l, h with
 | [], _ => simp [digAt]
 | [a], _ => simp [digAt]
 | [a, b], _ => simp [digAt]; cases isDig a <;> cases isDig b <;> simp
 | [a, b, c], _ => simp [digAt]; cases isDig a <;> cases isDig b <;> cases isDig c <;> simp
 | a :: b :: c :: d :: r, h =>
  simp [digAt]
  simp only [yr] at h
  split at h
  ·cases h
  ·rename_i hn
   revert hn
   cases isDig a <;> cases isDig b <;> cases isDig c <;> cases isDig d <;> simp
theorem yr_yes {l r : Bs} {y : Int} (h : yr l = some (y, r)) : (∀ i, i < 4 → digAt l i = true) ∧ r = l.drop 4 ∧ y = yk l 4 ∧ 4 ≤ l.length := by
 match l, h with
 | a :: b :: c :: d :: r', h =>
  simp only [yr] at h
  split at h
  ·rename_i hd
   simp only [Option.some.injEq, Prod.mk.injEq] at h
   obtain ⟨h1, h2⟩ := h
   refine ⟨?_, h2.symm, by rw [← h1]; simp [yk], by simp⟩
   intro i hi
   rcases i with _ | _ | _ | _ | i
   ·simpa [digAt] using hd.1
   ·simpa [digAt] using hd.2.1
   ·simpa [digAt] using hd.2.2.1
   ·simpa [digAt] using hd.2.2.2
   ·omega
  ·cases h
def nanoB : Bs → Bool
 | a :: b :: _ => decide (a = 46 ∨ a = 44) && isDig b
 | _ => false
theorem clkNano_no {l : Bs} (h : nanoB l = false) : clkNano l = (0, l) := by
 match l, h with
 | [], _ => rfl
 | [_], _ => rfl
 | a :: b :: r, h =>
  simp only [clkNano]
  rw [if_neg (by
   rintro ⟨h1, h2⟩
   simp [nanoB, h2] at h
   rcases h1 with h1 | h1
   ·exact h.1 h1
   ·exact h.2 h1)]
theorem clkNano_yes {a b : UInt8} {r : Bs} (h : nanoB (a :: b :: r) = true) : clkNano (a :: b :: r) = ((nanoGo 1 0 (b :: r)).1 * 10 ^ (10 - (nanoGo 1 0 (b :: r)).2.1), (nanoGo 1 0 (b :: r)).2.2) := by
 simp [nanoB] at h
 simp only [clkNano]
 rw [if_pos h]
def NI (k : Nat) (n V sc : Int) : Prop := V = n * 10 ^ (10 - k) ∧ sc = (if k ≤ 9 then 10 ^ (9 - k) else 0) ∧ V + 10 * sc ≤ 1000000000 ∧ 0 ≤ V ∧ V ≤ 999999999 ∧ 0 ≤ sc ∧ sc ≤ 100000000
theorem NI.start : NI 1 0 0 100000000 := by simp [NI]
theorem NI.step {k : Nat} {n V sc : Int} {c : UInt8} (hk : 1 ≤ k) (h : NI k n V sc) (hc : isDig c = true) : NI (k + 1) (if k < 10 then 10 * n + dig c else n) (V + dig c * sc) (sc / 10) := by
 have hd := dig_bd hc
 obtain ⟨h1, h2, h3, h4, h5, h6, h7⟩ := h
 by_cases hk9 : k ≤ 9
 ·have hcase : k = 1 ∨ k = 2 ∨ k = 3 ∨ k = 4 ∨ k = 5 ∨ k = 6 ∨ k = 7 ∨ k = 8 ∨ k = 9 := by omega
  rcases hcase with rfl | rfl | rfl | rfl | rfl | rfl | rfl | rfl | rfl <;> simp at h1 h2 <;> subst h2 <;> simp [NI] <;> omega
 ·rw [if_neg hk9] at h2
  rw [if_neg (by omega)]
  have e1 : 10 - k = 0 := by omega
  have e2 : 10 - (k + 1) = 0 := by omega
  rw [e1] at h1
  subst h2
  refine ⟨by rw [e2]; simp at h1 ⊢; exact h1, by rw [if_neg (by omega)]; rfl, by omega, by omega, by omega, by decide, by decide⟩
theorem nanoGo_stop {k : Nat} {n : Int} {l : Bs} (h : digAt l 0 = false) : nanoGo k n l = (n, k, l) := by
 match l, h with
 | [], _ => rfl
 | c :: r, h => simp [digAt] at h; simp [nanoGo, h]
theorem amount2 (a b : UInt8) : amount [a, b] 10 = if isDig a = true ∧ isDig b = true then some (10 * dig a + dig b) else none := by
 unfold amount
 rw [if_neg (by simp), amt_dig (by omega) (by omega)]
 by_cases ha : isDig a = true
 ·have := dig_bd ha
  rw [if_pos ha, amt_dig (by omega) (by omega)]
  by_cases hb : isDig b = true
  ·rw [if_pos hb, if_pos ⟨ha, hb⟩]; simp [amt]; omega
  ·rw [if_neg hb, if_neg (fun h => hb h.2)]
 ·rw [if_neg ha, if_neg (fun h => ha h.1)]
theorem zone_len {l : Bs} (h0 : l ≠ [90]) (h : l.length ≠ 6) : zoneOf l = none := by
 apply zoneOf_no h0
 cases hz : zoneIs l with
 | false => rfl
 | true =>
  exfalso
  obtain ⟨h1, a, b, d, e, h2⟩ := zoneIs_yes hz
  apply h
  cases l with
  | nil => simp [sgn] at h1
  | cons c r =>
   simp only [sgn] at h1 h2
   split at h1
   ·rename_i hc; rw [if_pos hc] at h2; simp at h2; rw [h2]; rfl
   ·rename_i hc
    split at h1
    ·rename_i hc2; rw [if_neg hc, if_pos hc2] at h2; simp at h2; rw [h2]; rfl
    ·cases h1
theorem zone6 (q a b c d e : UInt8) : zoneOf [q, a, b, c, d, e] =
  if (q = 43 ∨ q = 45) ∧ c = 58 ∧ isDig a = true ∧ isDig b = true ∧ isDig d = true ∧ isDig e = true then
   (if 10 * dig a + dig b ≤ 24 ∧ 10 * dig d + dig e ≤ 60 then some (if q = 45 then -((10 * dig a + dig b) * 3600 + (10 * dig d + dig e) * 60) else (10 * dig a + dig b) * 3600 + (10 * dig d + dig e) * 60) else none) else none := by
 unfold zoneOf
 rw [if_neg (by simp)]
 by_cases hq : q = 45
 ·subst hq
  simp only [sgn, if_true, amount2]
  by_cases hc : c = 58 <;> cases ha : isDig a <;> cases hb : isDig b <;> cases hd : isDig d <;> cases he : isDig e <;> simp [hc, zoneNum]
 ·by_cases hp : q = 43
  ·subst hp
   simp only [sgn, if_neg hq, if_true, amount2]
   by_cases hc : c = 58 <;> cases ha : isDig a <;> cases hb : isDig b <;> cases hd : isDig d <;> cases he : isDig e <;> simp [hc, zoneNum]
  ·simp [sgn, hq, hp]
theorem num2_dig {a b : UInt8} (ha : isDig a = true) (hb : isDig b = true) : num2 [a, b] = (10 * dig a + dig b, 2, []) := by simp [num2, ha, hb]
end Go.Proofs.YtillamhoakohdaaGreatDoor
namespace Go.Proofs.YtillamhoakohdaaGreatDoor
open Go.RowKit
attribute [local go_sem] setCell_drewN

set_option maxRecDepth 100000 in
set_option maxHeartbeats 4000000 in
theorem parse_no (s : ByteArray) (l : Bs) (form : UInt8) (w : World) (hl : StrIs s l) (hs : s.size ≤ 1000) (hy : yr l = none) :
  Calls Tryz.prog 106 #[.string s, .int .u8 form.toNat, .bool false] w (ParsePost (parseP form l) w) := by
 have T : Hid (parseP form l = none) := Lib.hid (by unfold parseP dateP; rw [hy]; rfl)
 have hy2 := yr_no hy
 clear hy
 rcases hy2 with d0 | ⟨d0, d1⟩ | ⟨d0, d1, d2⟩ | ⟨d0, d1, d2, d3⟩
 ·skip
  have D0 := dig_at hl hs d0 0 (by omega)
  clear d0 hl
  go_enter Tryz.func106, Tryz.ntmps106
  go_wp2_with fail
  refine (D0.out _).mono ?_
  rintro e w' ⟨rfl, rfl⟩
  have S : TS w _ 0 0 0 0 0 0 0 0 := ⟨heap_alloc_new _ _, (Below.refl _ _).alloc (Nat.le_refl _) _⟩
  go_wp2_with (first | refine load61 rfl _ rfl _ rfl 61 _ _ S.1 rfl ?_ | refine store61 rfl _ _ rfl _ _ rfl rfl rfl rfl 61 _ S.1 rfl ?_)
  first
  | exact bodyPost_ret (v := .tuple #[.agg (tCells 0 0 0 0 0 0 0 0), .bool false]) (results_61 Tryz.results106 _ _ _ _ _ _ rfl S.fin.1 rfl) rfl ⟨S.fin.2, 0, 0, 0, 0, 0, 0, 0, 0, by rw [T.out]; rfl, by rw [T.out]; intro x h; cases h⟩
  | exact bodyPost_ret (v := .tuple #[.agg (tCells 0 0 0 0 0 0 0 0), .bool false]) (results_61 Tryz.results106 _ _ _ _ _ _ rfl S.1 rfl) rfl ⟨S.2, 0, 0, 0, 0, 0, 0, 0, 0, by rw [T.out]; rfl, by rw [T.out]; intro x h; cases h⟩
 ·skip
  have D0 := dig_at hl hs d0 0 (by omega)
  have D1 := dig_at hl hs d1 1 (by omega)
  clear d0 d1 hl
  go_enter Tryz.func106, Tryz.ntmps106
  go_wp2_with fail
  refine (D0.out _).mono ?_
  rintro e w' ⟨rfl, rfl⟩
  go_wp2_with fail
  refine (D1.out _).mono ?_
  rintro e w' ⟨rfl, rfl⟩
  have S : TS w _ 0 0 0 0 0 0 0 0 := ⟨heap_alloc_new _ _, (Below.refl _ _).alloc (Nat.le_refl _) _⟩
  go_wp2_with (first | refine load61 rfl _ rfl _ rfl 61 _ _ S.1 rfl ?_ | refine store61 rfl _ _ rfl _ _ rfl rfl rfl rfl 61 _ S.1 rfl ?_)
  first
  | exact bodyPost_ret (v := .tuple #[.agg (tCells 0 0 0 0 0 0 0 0), .bool false]) (results_61 Tryz.results106 _ _ _ _ _ _ rfl S.fin.1 rfl) rfl ⟨S.fin.2, 0, 0, 0, 0, 0, 0, 0, 0, by rw [T.out]; rfl, by rw [T.out]; intro x h; cases h⟩
  | exact bodyPost_ret (v := .tuple #[.agg (tCells 0 0 0 0 0 0 0 0), .bool false]) (results_61 Tryz.results106 _ _ _ _ _ _ rfl S.1 rfl) rfl ⟨S.2, 0, 0, 0, 0, 0, 0, 0, 0, by rw [T.out]; rfl, by rw [T.out]; intro x h; cases h⟩
 ·skip
  have D0 := dig_at hl hs d0 0 (by omega)
  have D1 := dig_at hl hs d1 1 (by omega)
  have D2 := dig_at hl hs d2 2 (by omega)
  clear d0 d1 d2 hl
  go_enter Tryz.func106, Tryz.ntmps106
  go_wp2_with fail
  refine (D0.out _).mono ?_
  rintro e w' ⟨rfl, rfl⟩
  go_wp2_with fail
  refine (D1.out _).mono ?_
  rintro e w' ⟨rfl, rfl⟩
  go_wp2_with fail
  refine (D2.out _).mono ?_
  rintro e w' ⟨rfl, rfl⟩
  have S : TS w _ 0 0 0 0 0 0 0 0 := ⟨heap_alloc_new _ _, (Below.refl _ _).alloc (Nat.le_refl _) _⟩
  go_wp2_with (first | refine load61 rfl _ rfl _ rfl 61 _ _ S.1 rfl ?_ | refine store61 rfl _ _ rfl _ _ rfl rfl rfl rfl 61 _ S.1 rfl ?_)
  first
  | exact bodyPost_ret (v := .tuple #[.agg (tCells 0 0 0 0 0 0 0 0), .bool false]) (results_61 Tryz.results106 _ _ _ _ _ _ rfl S.fin.1 rfl) rfl ⟨S.fin.2, 0, 0, 0, 0, 0, 0, 0, 0, by rw [T.out]; rfl, by rw [T.out]; intro x h; cases h⟩
  | exact bodyPost_ret (v := .tuple #[.agg (tCells 0 0 0 0 0 0 0 0), .bool false]) (results_61 Tryz.results106 _ _ _ _ _ _ rfl S.1 rfl) rfl ⟨S.2, 0, 0, 0, 0, 0, 0, 0, 0, by rw [T.out]; rfl, by rw [T.out]; intro x h; cases h⟩
 ·skip
  have D0 := dig_at hl hs d0 0 (by omega)
  have D1 := dig_at hl hs d1 1 (by omega)
  have D2 := dig_at hl hs d2 2 (by omega)
  have D3 := dig_at hl hs d3 3 (by omega)
  clear d0 d1 d2 d3 hl
  go_enter Tryz.func106, Tryz.ntmps106
  go_wp2_with fail
  refine (D0.out _).mono ?_
  rintro e w' ⟨rfl, rfl⟩
  go_wp2_with fail
  refine (D1.out _).mono ?_
  rintro e w' ⟨rfl, rfl⟩
  go_wp2_with fail
  refine (D2.out _).mono ?_
  rintro e w' ⟨rfl, rfl⟩
  go_wp2_with fail
  refine (D3.out _).mono ?_
  rintro e w' ⟨rfl, rfl⟩
  have S : TS w _ 0 0 0 0 0 0 0 0 := ⟨heap_alloc_new _ _, (Below.refl _ _).alloc (Nat.le_refl _) _⟩
  go_wp2_with (first | refine load61 rfl _ rfl _ rfl 61 _ _ S.1 rfl ?_ | refine store61 rfl _ _ rfl _ _ rfl rfl rfl rfl 61 _ S.1 rfl ?_)
  first
  | exact bodyPost_ret (v := .tuple #[.agg (tCells 0 0 0 0 0 0 0 0), .bool false]) (results_61 Tryz.results106 _ _ _ _ _ _ rfl S.fin.1 rfl) rfl ⟨S.fin.2, 0, 0, 0, 0, 0, 0, 0, 0, by rw [T.out]; rfl, by rw [T.out]; intro x h; cases h⟩
  | exact bodyPost_ret (v := .tuple #[.agg (tCells 0 0 0 0 0 0 0 0), .bool false]) (results_61 Tryz.results106 _ _ _ _ _ _ rfl S.1 rfl) rfl ⟨S.2, 0, 0, 0, 0, 0, 0, 0, 0, by rw [T.out]; rfl, by rw [T.out]; intro x h; cases h⟩
end Go.Proofs.YtillamhoakohdaaGreatDoor

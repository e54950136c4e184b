/-
  What a text is under a tag, in the program's order; and the door of package yaml's resolve.
-/
import Derived.Test.YtillamhoakohdaaGreatDoorM11
import Derived.Test.YtillamhoakohdaaGreatDoorM14
import Derived.Test.YtillamhoakohdaaGreatDoorM15
import Derived.Test.YtillamhoakohdaaGreatDoorM24
set_option linter.unusedVariables false
set_option linter.unusedSimpArgs false
namespace Go.Proofs.YtillamhoakohdaaGreatDoor
open Go.RowKit

inductive AnyT : PV → Value → Prop where
 | any {p : PV} {v : Value} (h : AnyIs p v) : AnyT p v
 | tim (a0 a1 a2 a3 a4 a5 a6 a7 : Int) : AnyT (.tim [a0, a1, a2, a3, a4, a5, a6, a7]) (.iface 61 (.agg (tCells a0 a1 a2 a3 a4 a5 a6 a7)))
def Resolvable (t : Bs) : Prop := t = [] ∨ t = tStr ∨ t = tBool ∨ t = tInt ∨ t = tFloat ∨ t = tNull ∨ t = tTime
def RPost (t l : Bs) (w : World) (e : Ending) (w' : World) : Prop := Below w.heap.size w w' ∧
  ((∃ s X tg p, underOf t l = some (tg, p) ∧ StrIs s tg ∧ AnyT p X ∧ e = .returned (.tuple #[.string s, X])) ∨
   (underOf t l = none ∧ ∃ v, IsErr v ∧ e = .panicked [{ v := v, recovered := false }]))

theorem word_hint {c : UInt8} {r : Bs} (h : hintOf c = 0) : wordOf (c :: r) = none := by
 have n1 : c ≠ 126 := by rintro rfl; revert h; decide
 have n2 : c ≠ 110 := by rintro rfl; revert h; decide
 have n3 : c ≠ 78 := by rintro rfl; revert h; decide
 have n4 : c ≠ 116 := by rintro rfl; revert h; decide
 have n5 : c ≠ 84 := by rintro rfl; revert h; decide
 have n6 : c ≠ 102 := by rintro rfl; revert h; decide
 have n7 : c ≠ 70 := by rintro rfl; revert h; decide
 have n8 : c ≠ 46 := by rintro rfl; revert h; decide
 have n9 : c ≠ 43 := by rintro rfl; revert h; decide
 have n10 : c ≠ 45 := by rintro rfl; revert h; decide
 simp [wordOf, n1, n2, n3, n4, n5, n6, n7, n8, n9, n10]
def NoNum (c : UInt8) : Prop := c ≠ 46 ∧ ¬ (isDig c = true ∨ c = 45 ∨ c = 43)
theorem hint_kind (c : UInt8) : (hintOf c = 0 ∧ NoNum c) ∨ (hintOf c = 77 ∧ NoNum c) ∨ (hintOf c = 46 ∧ c = 46) ∨ ((hintOf c = 68 ∨ hintOf c = 83) ∧ c ≠ 46 ∧ (isDig c = true ∨ c = 45 ∨ c = 43)) := by
  unfold hintOf NoNum
  by_cases h1 : c = 43 ∨ c = 45
  · rw [if_pos h1]; exact .inr (.inr (.inr ⟨.inr rfl, by rcases h1 with rfl | rfl <;> decide, by rcases h1 with h | h <;> simp [h]⟩))
  rw [if_neg h1]
  by_cases h2 : isDig c = true
  · rw [if_pos h2]; exact .inr (.inr (.inr ⟨.inl rfl, by rintro rfl; revert h2; decide, .inl h2⟩))
  rw [if_neg h2]
  have hn : ¬ (isDig c = true ∨ c = 45 ∨ c = 43) := by rintro (h | h | h)
                                                       · exact h2 h
                                                       · exact h1 (.inr h)
                                                       · exact h1 (.inl h)
  by_cases h3 : c = 46
  · subst h3; exact .inr (.inr (.inl ⟨by decide, rfl⟩))
  rw [if_neg h3]
  split
  · exact .inr (.inl ⟨rfl, h3, hn⟩)
  · exact .inl ⟨rfl, h3, hn⟩
theorem pln_word {tm : Bool} {l : Bs} {x : Bs × PV} (h : wordOf l = some x) : plainOf tm l = x := by unfold plainOf; rw [h]
theorem pln_text {tm : Bool} {c : UInt8} {r : Bs} (h : wordOf (c :: r) = none) (hc : NoNum c) : plainOf tm (c :: r) = (tStr, .txt (c :: r)) := by
 unfold plainOf; rw [h]; simp only; rw [if_neg hc.1, if_neg hc.2]
theorem pln_dot {tm : Bool} {r : Bs} (h : wordOf (46 :: r) = none) : plainOf tm (46 :: r) = (match pf (46 :: r) with | some n => (tFloat, .flt n) | none => (tStr, .txt (46 :: r))) := by
 unfold plainOf; rw [h]; simp only [if_true]; rfl
theorem pln_num {tm : Bool} {c : UInt8} {r : Bs} (h : wordOf (c :: r) = none) (h1 : c ≠ 46) (h2 : isDig c = true ∨ c = 45 ∨ c = 43) :
  plainOf tm (c :: r) = (match (if tm = true then timeOf (c :: r) else none) with | some a => (tTime, .tim a) | none => numOf (c :: r)) := by
 unfold plainOf; rw [h]; simp only; rw [if_neg h1, if_pos h2]; rfl
theorem dig1 (c : UInt8) (r : Bs) (h : c = 98 ∨ c = 111) : digits (48 :: c :: r) = 1 := by
 rcases h with rfl | rfl <;> rfl
theorem real_no (l : Bs) (c : UInt8) (r : Bs) (h : c = 98 ∨ c = 111) (hl : (sgn l).1 = 48 :: c :: r) : real l = false := by
 unfold real
 rw [hl, dig1 c r h]
 rcases h with rfl | rfl
 ·show (_ && expo (dotted 1 (98 :: r)).1) = false
  rw [show (dotted 1 (98 :: r)).1 = 98 :: r from rfl]
  simp [expo]
 ·show (_ && expo (dotted 1 (111 :: r)).1) = false
  rw [show (dotted 1 (111 :: r)).1 = 111 :: r from rfl]
  simp [expo]
inductive Last : Bs → Prop where
 | b (r : Bs) : Last (48 :: 98 :: r)
 | o (r : Bs) : Last (48 :: 111 :: r)
 | mb (r : Bs) : Last (45 :: 48 :: 98 :: r)
 | mo (r : Bs) : Last (45 :: 48 :: 111 :: r)
 | no {l : Bs} (h1 : l.take 2 ≠ [48, 98]) (h2 : l.take 2 ≠ [48, 111]) (h3 : l.take 3 ≠ [45, 48, 98]) (h4 : l.take 3 ≠ [45, 48, 111]) (h : lastP l = none) : Last l
theorem last_ways (l : Bs) : Last l := by
 match l with
 | [] => exact .no (by decide) (by decide) (by decide) (by decide) rfl
 | [a] => exact .no (by simp) (by simp) (by simp) (by simp) rfl
 | [a, b] =>
  by_cases h1 : a = 48 ∧ b = 98
  ·obtain ⟨rfl, rfl⟩ := h1; exact .b []
  by_cases h2 : a = 48 ∧ b = 111
  ·obtain ⟨rfl, rfl⟩ := h2; exact .o []
  refine .no (by simpa using h1) (by simpa using h2) (by simp) (by simp) ?_
  rw [lastP_cc, if_neg h1, if_neg h2]; split <;> rfl
 | a :: b :: c :: r =>
  by_cases h1 : a = 48 ∧ b = 98
  ·obtain ⟨rfl, rfl⟩ := h1; exact .b _
  by_cases h2 : a = 48 ∧ b = 111
  ·obtain ⟨rfl, rfl⟩ := h2; exact .o _
  by_cases h3 : a = 45 ∧ b = 48 ∧ c = 98
  ·obtain ⟨rfl, rfl, rfl⟩ := h3; exact .mb _
  by_cases h4 : a = 45 ∧ b = 48 ∧ c = 111
  ·obtain ⟨rfl, rfl, rfl⟩ := h4; exact .mo _
  refine .no (by simpa using h1) (by simpa using h2) (by simpa using h3) (by simpa using h4) ?_
  rw [lastP_cc, if_neg h1, if_neg h2]
  by_cases h5 : a = 45 ∧ b = 48
  ·rw [if_pos h5]
   simp only
   rw [if_neg (fun h => h3 ⟨h5.1, h5.2, h⟩), if_neg (fun h => h4 ⟨h5.1, h5.2, h⟩)]
  ·rw [if_neg h5]
theorem real_last {l : Bs} (h : real l = true) : lastP l = none := by
 cases last_ways l with
 | b r => rw [real_no _ 98 r (.inl rfl) rfl] at h; cases h
 | o r => rw [real_no _ 111 r (.inr rfl) rfl] at h; cases h
 | mb r => rw [real_no _ 98 r (.inl rfl) rfl] at h; cases h
 | mo r => rw [real_no _ 111 r (.inr rfl) rfl] at h; cases h
 | no _ _ _ _ h => exact h
theorem num_int {l : Bs} {n : Int} (h : intP 0 (bare l) = some n) : numOf l = (tInt, .int n) := by
 unfold numOf; rw [whole_is]; unfold numP; rw [h]; rfl
theorem num_uint {l : Bs} {n : Int} (h : intP 0 (bare l) = none) (h2 : uintP 0 (bare l) = some n) : numOf l = (tInt, .uint n) := by
 unfold numOf; rw [whole_is]; unfold numP; rw [h, h2]; rfl
theorem numP_no {l : Bs} (h : intP 0 (bare l) = none) (h2 : uintP 0 (bare l) = none) : numP 0 (bare l) = none := by unfold numP; rw [h, h2]; rfl
theorem num_flt {l : Bs} {n : Nat} (h : numP 0 (bare l) = none) (hr : real (bare l) = true) (hp : pf (bare l) = some n) : numOf l = (tFloat, .flt n) := by
 unfold numOf; rw [whole_is, h, real_last hr]; simp only [Option.none_or]; rw [if_pos hr, hp]
theorem num_last {l : Bs} {v : PV} (h : numP 0 (bare l) = none) (hl : lastP (bare l) = some v) : numOf l = (tInt, v) := by
 unfold numOf; rw [whole_is, h, hl]; rfl
theorem num_text {l : Bs} (h : numP 0 (bare l) = none) (hr : real (bare l) = true → pf (bare l) = none) (hl : lastP (bare l) = none) : numOf l = (tStr, .txt l) := by
 unfold numOf; rw [whole_is, h, hl]; simp only [Option.none_or]
 by_cases h2 : real (bare l) = true
 ·rw [if_pos h2, hr h2]
 ·rw [if_neg h2]

def answer (t : Bs) (f : Bs × PV) : Option (Bs × PV) :=
 if t = [] ∨ t = f.1 ∨ t = tStr then some f else if t = tFloat then (match f.2 with | .int i => some (tFloat, .flt (floatOfInt .f64 i)) | _ => none) else none
theorem undr_str (l : Bs) : underOf tStr l = answer tStr (tStr, .txt l) := by unfold underOf; rw [if_pos (.inr (.inl rfl))]; rfl
theorem under_plain {t l : Bs} (h : Resolvable t) (h2 : t ≠ tStr) : underOf t l = answer t (plainOf (decide (t = [] ∨ t = tTime)) l) := by
 unfold Resolvable at h; unfold underOf; rw [if_pos h]; simp only; rw [if_neg h2]; rfl
theorem under_other {t l : Bs} (h : ¬ Resolvable t) : underOf t l = some (t, .txt l) := by unfold Resolvable at h; unfold underOf; rw [if_neg h]

def Found (f : Bs × PV) (R : ByteArray) (X : Value) : Prop := StrIs R f.1 ∧ AnyT f.2 X ∧ (f.1 = tInt → ∃ i, f.2 = .int i ∨ f.2 = .uint i) ∧ (∀ i, f.2 = .int i → f.1 = tInt)
theorem Found.text {l : Bs} {s : ByteArray} (h : StrIs s l) : Found (tStr, .txt l) ⟨#[33, 33, 115, 116, 114]⟩ (.iface 9 (.string s)) := ⟨rfl, .any (.txt s l h), (fun h => by cases h), fun i h => by cases h⟩
theorem Found.flt (n : Nat) : Found (tFloat, .flt n) ⟨#[33, 33, 102, 108, 111, 97, 116]⟩ (.iface 52 (.float .f64 n)) := ⟨rfl, .any (.flt n), (fun h => by cases h), fun i h => by cases h⟩
theorem Found.int (n : Int) : Found (tInt, .int n) ⟨#[33, 33, 105, 110, 116]⟩ (.iface 3 (.int .i64 n)) := ⟨rfl, .any (.int n), (fun _ => ⟨n, .inl rfl⟩), fun _ _ => rfl⟩
theorem Found.uint (n : Int) : Found (tInt, .uint n) ⟨#[33, 33, 105, 110, 116]⟩ (.iface 23 (.int .u64 n)) := ⟨rfl, .any (.uint n), (fun _ => ⟨n, .inr rfl⟩), fun _ _ => rfl⟩
theorem Found.tim (a0 a1 a2 a3 a4 a5 a6 a7 : Int) : Found (tTime, .tim [a0, a1, a2, a3, a4, a5, a6, a7]) ⟨#[33, 33, 116, 105, 109, 101, 115, 116, 97, 109, 112]⟩ (.iface 61 (.agg (tCells a0 a1 a2 a3 a4 a5 a6 a7))) := ⟨rfl, .tim .., (fun h => by cases h), fun i h => by cases h⟩
theorem word_tag {l t : Bs} {p : PV} (h : wordOf l = some (t, p)) : t ≠ tInt := by
 unfold wordOf at h
 repeat' split at h
 all_goals (first | (cases h; done) | (cases h; decide))
theorem word_int {l t : Bs} {i : Int} : wordOf l ≠ some (t, .int i) := by
 intro h
 unfold wordOf at h
 repeat' split at h
 all_goals (cases h; done)
theorem Found.word {l : Bs} {x : Bs × PV} {s : ByteArray} {v : Value} (h : wordOf l = some x) (hs : StrIs s x.1) (hv : AnyIs x.2 v) : Found x s v := ⟨hs, .any hv, (fun h2 => absurd h2 (word_tag (t := x.1) (p := x.2) h)), fun i hi => by obtain ⟨a, b⟩ := x; cases hi; exact absurd h word_int⟩

def Vars (n : Nat) (w W : World) (T R : ByteArray) (X : Value) : Prop :=
 Below n w W ∧ W.heap[n]? = some (.cells #[.string T] 9 (0, 0)) ∧ W.heap[n + 1]? = some (.cells #[.string R] 9 (0, 0)) ∧ W.heap[n + 2]? = some (.cells #[X] 20 (0, 0))
def vp (k : Nat) : Value := .pointer (some ⟨k, 0, none⟩)
def endD (n : Nat) : Deferred := { target := .fn (.func 33) #[vp n, vp (n + 1), vp (n + 2)], args := #[] }

theorem results19 {tmps : Array Value} {n : Nat} {W : World} {R : ByteArray} {X : Value} (e4 : tmps.getD 4 undef = vp (n + 1)) (e5 : tmps.getD 5 undef = vp (n + 2))
  (h4 : W.heap[n + 1]? = some (.cells #[.string R] 9 (0, 0))) (h5 : W.heap[n + 2]? = some (.cells #[X] 20 (0, 0))) : (results Tryz.f19 tmps).run Tryz.prog W = .ok (.tuple #[.string R, X]) W := by
 have c4 := cellv h4 0 _ rfl
 have c5 := cellv h5 0 _ rfl
 unfold vp at e4 e5
 simp only [Array.getD_eq_getD_getElem?] at e4 e5
 simp [results, Tryz.results19, go_sem, e4, e5, c4, c5]

theorem Vars.begin (w : World) (T R : ByteArray) (X : Value) : Vars w.heap.size w (((w.alloc (.cells #[.string T] 9)).alloc (.cells #[.string R] 9)).alloc (.cells #[X] 20)) T R X := by
 have e1 : (w.alloc (.cells #[.string T] 9)).heap.size = w.heap.size + 1 := by simp
 have e2 : ((w.alloc (.cells #[.string T] 9)).alloc (.cells #[.string R] 9)).heap.size = w.heap.size + 2 := by simp
 refine ⟨(((Below.refl _ _).alloc (Nat.le_refl _) _).alloc (by simp) _).alloc (by simp; omega) _, ?_, ?_, ?_⟩
 ·rw [heap_alloc_old (r := w.heap.size) _ _ (by simp; omega), heap_alloc_old (r := w.heap.size) _ _ (by simp)]; exact heap_alloc_new _ _
 ·rw [heap_alloc_old (r := w.heap.size + 1) _ _ (by simp)]; rw [← e1]; exact heap_alloc_new _ _
 ·rw [← e2]; exact heap_alloc_new _ _
theorem Vars.step {n : Nat} {w W W' : World} {T R : ByteArray} {X : Value} (h : Vars n w W T R X) (hb : Below W.heap.size W W') : Vars n w W' T R X := by
 obtain ⟨h0, h2, h4, h5⟩ := h
 exact ⟨h0.trans (hb.mono (Nat.le_of_lt (lt_of_heap h2))), hg_below hb (lt_of_heap h2) h2, hg_below hb (lt_of_heap h4) h4, hg_below hb (lt_of_heap h5) h5⟩
theorem Vars.drew {n : Nat} {w W : World} {T R : ByteArray} {X : Value} (h : Vars n w W T R X) : Vars n w W.drew T R X := h.step ⟨rfl, rfl, rfl, Nat.le_refl _, fun _ _ => rfl⟩
theorem Vars.put {n : Nat} {w W : World} {T R : ByteArray} {X : Value} (h : Vars n w W T R X) (R' : ByteArray) (X' : Value) : Vars n w ((W.setCell ⟨n + 1, 0, none⟩ (.string R')).setCell ⟨n + 1 + 1, 0, none⟩ X') T R' X' := by
 obtain ⟨h0, h2, h4, h5⟩ := h
 refine ⟨(h0.setCell (p := ⟨n + 1, 0, none⟩) (by simp) _).setCell (p := ⟨n + 1 + 1, 0, none⟩) (by simp; omega) _, ?_, ?_, ?_⟩
 ·rw [heap_setCell_other _ _ _ _ (by simp; omega), heap_setCell_other _ _ _ _ (by simp)]; exact h2
 ·rw [heap_setCell_other _ _ _ _ (by simp)]; exact heap_setCell_same _ _ _ _ _ _ h4
 ·have q5 : (W.setCell ⟨n + 1, 0, none⟩ (.string R')).heap[n + 1 + 1]? = some (.cells #[X] 20 (0, 0)) := by rw [heap_setCell_other _ _ _ _ (by simp)]; exact h5
  exact heap_setCell_same _ _ _ _ _ _ q5
theorem Vars.cells {n : Nat} {w W : World} {T R : ByteArray} {X : Value} (h : Vars n w W T R X) : W.cell? ⟨n, 0, none⟩ = some (.string T) ∧ W.cell? ⟨n + 1, 0, none⟩ = some (.string R) ∧ W.cell? ⟨n + 1 + 1, 0, none⟩ = some X ∧
  W.frozen? ⟨n + 1, 0, none⟩ = false ∧ W.frozen? ⟨n + 1 + 1, 0, none⟩ = false :=
 ⟨cellv h.2.1 0 _ rfl, cellv h.2.2.1 0 _ rfl, cellv h.2.2.2 0 _ rfl, frozen_of_row _ _ 0 _ _ h.2.2.1, frozen_of_row _ _ 0 _ _ h.2.2.2⟩
theorem leave19 {tmps : Array Value} {w W : World} {T R : ByteArray} {X : Value} {t l : Bs} (e4 : tmps.getD 4 undef = vp (w.heap.size + 1)) (e5 : tmps.getD 5 undef = vp (w.heap.size + 2))
  (hV : Vars w.heap.size w W T R X) (hR : StrIs R t) (hX : AnyT (.txt l) X) (hr : ¬ Resolvable t) :
  bodyPostD Tryz.prog Tryz.f19 (RPost t l w) .ret { tmps := tmps, defers := [] } W := by
 obtain ⟨hB, h2, h4, h5⟩ := hV
 exact ⟨_, results19 e4 e5 h4 h5, hB, .inl ⟨R, X, t, .txt l, under_other hr, hR, hX, rfl⟩⟩
theorem below_cells {n : Nat} {w W : World} {v : Value} {X : Value} (h : Below n w W) : Below n w ((W.setCell ⟨n + 1, 0, none⟩ v).setCell ⟨n + 2, 0, none⟩ X) :=
 (h.setCell (p := ⟨n + 1, 0, none⟩) (by simp) v).setCell (p := ⟨n + 2, 0, none⟩) (by simp) X
theorem door19 {tmps : Array Value} {w W : World} {T R : ByteArray} {X : Value} {t l : Bs} {f : Bs × PV} (e4 : tmps.getD 4 undef = vp (w.heap.size + 1)) (e5 : tmps.getD 5 undef = vp (w.heap.size + 2))
    (hV : Vars w.heap.size w W T R X) (hT : StrIs T t) (hF : Found f R X) (hr : Resolvable t) (hu : underOf t l = answer t f) :
    bodyPostD Tryz.prog Tryz.f19 (RPost t l w) .ret { tmps := tmps, defers := [endD w.heap.size] } W := by
  obtain ⟨hB, h2, h4, h5⟩ := hV
  obtain ⟨hR, hX, hfi, hfj⟩ := hF
  have hTl : T.toList = t := by rw [Lib.toList_data]; exact hT
  have hRl : R.toList = f.1 := by rw [Lib.toList_data]; exact hR
  have hbin : t ≠ tBin := by rcases hr with rfl | rfl | rfl | rfl | rfl | rfl | rfl <;> decide
  show Leaves _ _ _ _ [endD w.heap.size] .returning W
  unfold endD vp
  refine leaves_cons (f := 33) (args := #[.pointer (some ⟨w.heap.size, 0, none⟩), .pointer (some ⟨w.heap.size + 1, 0, none⟩), .pointer (some ⟨w.heap.size + 2, 0, none⟩)]) (by simp) (by simp [go_sem]) ?_
  by_cases k1 : t = [] ∨ t = f.1 ∨ t = tStr
  · refine (fin_same _ _ _ T R X W h2 h4 (by rw [hTl, hRl]; rcases k1 with h | h | h
                                             · exact .inl h
                                             · exact .inr (.inl h)
                                             · exact .inr (.inr (.inl h)))).mono ?_
    rintro e u' w'' ⟨rfl, rfl, rfl⟩
    refine ⟨_, results19 e4 e5 h4 h5, hB, .inl ⟨R, X, f.1, f.2, ?_, hR, hX, rfl⟩⟩
    rw [hu]; unfold answer; rw [if_pos k1]
  have ha : answer t f = if t = tFloat then (match f.2 with | .int i => some (tFloat, .flt (floatOfInt .f64 i)) | _ => none) else none := by unfold answer; rw [if_neg k1]
  by_cases k2 : t = tFloat ∧ ∃ i, f.2 = .int i ∧ f.1 = tInt
  · obtain ⟨k2, i, k3, k4⟩ := k2
    rw [k3] at hX
    have hXi : X = .iface 3 (.int .i64 i) := by cases hX with | any h => cases h; rfl
    subst hXi
    refine (fin_float _ _ _ T R i W h2 h4 h5 (by omega) (by rw [hTl]; exact k2) (by rw [hRl]; exact k4)).mono ?_
    rintro e u' w'' ⟨rfl, rfl, rfl⟩
    have g4 : ((W.setCell ⟨w.heap.size + 1, 0, none⟩ (.string ⟨#[33, 33, 102, 108, 111, 97, 116]⟩)).setCell ⟨w.heap.size + 2, 0, none⟩ (.iface 52 (.float .f64 (floatOfInt .f64 i)))).heap[w.heap.size + 1]? = some (.cells #[.string ⟨#[33, 33, 102, 108, 111, 97, 116]⟩] 9 (0, 0)) := by
      rw [heap_setCell_other _ _ _ _ (by simp)]; exact heap_setCell_same _ _ _ _ _ _ h4
    have g5 : ((W.setCell ⟨w.heap.size + 1, 0, none⟩ (.string ⟨#[33, 33, 102, 108, 111, 97, 116]⟩)).setCell ⟨w.heap.size + 2, 0, none⟩ (.iface 52 (.float .f64 (floatOfInt .f64 i)))).heap[w.heap.size + 2]? = some (.cells #[.iface 52 (.float .f64 (floatOfInt .f64 i))] 20 (0, 0)) := by
      have q5 : (W.setCell ⟨w.heap.size + 1, 0, none⟩ (.string ⟨#[33, 33, 102, 108, 111, 97, 116]⟩)).heap[w.heap.size + 2]? = some (.cells #[.iface 3 (.int .i64 i)] 20 (0, 0)) := by rw [heap_setCell_other _ _ _ _ (by simp)]; exact h5
      exact heap_setCell_same _ _ _ _ _ _ q5
    refine ⟨_, results19 e4 e5 g4 g5, below_cells hB, .inl ⟨_, _, tFloat, .flt (floatOfInt .f64 i), ?_, (show StrIs ⟨#[33, 33, 102, 108, 111, 97, 116]⟩ tFloat from rfl), .any (.flt _), rfl⟩⟩
    rw [hu, ha, if_pos k2, k3]
  · refine (fin_no _ _ _ T R X W h2 h4 h5 (by rw [hTl]; exact fun h => k1 (.inl h)) (by rw [hTl, hRl]; exact fun h => k1 (.inr (.inl h))) (by rw [hTl]; exact fun h => k1 (.inr (.inr h))) (by rw [hTl]; exact hbin) ?_).mono ?_
    · intro hf hi
      rw [hTl] at hf
      rw [hRl] at hi
      obtain ⟨i, h | h⟩ := hfi hi
      · exact absurd ⟨hf, i, h, hi⟩ k2
      · rw [h] at hX
        cases hX with | any h => cases h; exact ⟨_, rfl⟩
    rintro e u' w'' ⟨rfl, ⟨v, hv, rfl⟩, hB2⟩
    refine ⟨hB.trans (hB2.mono (Nat.le_of_lt (lt_of_heap h2))), .inr ⟨?_, v, hv, rfl⟩⟩
    rw [hu, ha]
    by_cases hf : t = tFloat
    · rw [if_pos hf]
      cases hx : f.2 with
      | int i =>
        exfalso
        exact k2 ⟨hf, i, hx, hfj i hx⟩
      | _ => rfl
    · rw [if_neg hf]
end Go.Proofs.YtillamhoakohdaaGreatDoor

/-
  Walks: the program's times, all forms, and the look ahead of them. Plain law: texts that are read as decimals alone; the light ParseFloat's answer.
-/
import Derived.Test.YtillamhoakohdaaGreatDoorM11
import Derived.Test.YtillamhoakohdaaGreatDoorM17
import Derived.Test.YtillamhoakohdaaGreatDoorM27
set_option linter.unusedVariables false
set_option linter.unusedSimpArgs false
namespace Go.Proofs.YtillamhoakohdaaGreatDoor
open Go.RowKit
attribute [local go_sem] setCell_drewN

theorem parse_any (s : ByteArray) (l : Bs) (form : UInt8) (w : World) (hl : StrIs s l) (hs : s.size ≤ 1000) :
  Calls Tryz.prog 106 #[.string s, .int .u8 form.toNat, .bool false] w (ParsePost (parseP form l) w) := by
 cases hy : yr l with
 | none => exact parse_no s l form w hl hs hy
 | some a => exact parse_yes s l form w hl hs a.1 a.2 hy
theorem times84 (l : Bs) {a : List Int} (h : parseP 84 l = some a) : timesP l = some a := by simp [timesP, h]
theorem times116 (l : Bs) {a : List Int} (h0 : parseP 84 l = none) (h : parseP 116 l = some a) : timesP l = some a := by simp [timesP, h0, h]
theorem times32 (l : Bs) {a : List Int} (h0 : parseP 84 l = none) (h1 : parseP 116 l = none) (h : parseP 32 l = some a) : timesP l = some a := by simp [timesP, h0, h1, h]
theorem times0 (l : Bs) {a : List Int} (h0 : parseP 84 l = none) (h1 : parseP 116 l = none) (h2 : parseP 32 l = none) (h : parseP 0 l = some a) : timesP l = some a := by simp [timesP, h0, h1, h2, h]
theorem timesNo (l : Bs) (h0 : parseP 84 l = none) (h1 : parseP 116 l = none) (h2 : parseP 32 l = none) (h : parseP 0 l = none) : timesP l = none := by simp [timesP, h0, h1, h2, h]

set_option maxRecDepth 100000 in
set_option maxHeartbeats 4000000 in
theorem Parse_any (s : ByteArray) (l : Bs) (w : World) (hl : StrIs s l) (hs : s.size ≤ 1000) :
  Calls Tryz.prog 72 #[.string s] w (ParsePost (timesP l) w) := by
 have C84 : Hid (∀ w, Calls Tryz.prog 106 #[.string s, .int .u8 84, .bool false] w (ParsePost (parseP 84 l) w)) := Lib.hid (fun w => parse_any s l 84 w hl hs)
 have C116 : Hid (∀ w, Calls Tryz.prog 106 #[.string s, .int .u8 116, .bool false] w (ParsePost (parseP 116 l) w)) := Lib.hid (fun w => parse_any s l 116 w hl hs)
 have C32 : Hid (∀ w, Calls Tryz.prog 106 #[.string s, .int .u8 32, .bool false] w (ParsePost (parseP 32 l) w)) := Lib.hid (fun w => parse_any s l 32 w hl hs)
 have C0 : Hid (∀ w, Calls Tryz.prog 106 #[.string s, .int .u8 0, .bool false] w (ParsePost (parseP 0 l) w)) := Lib.hid (fun w => parse_any s l 0 w hl hs)
 clear hl hs
 go_enter Tryz.func72, Tryz.ntmps72
 go_upto_region 2 with fail
 have S0 : TS w ((w.alloc (.cells (tCells 0 0 0 0 0 0 0 0) 61)).alloc (.cells #[.int .u8 84, .int .u8 116, .int .u8 32, .int .u8 0] 5)) 0 0 0 0 0 0 0 0 := TS.step ⟨heap_alloc_new _ _, (Below.refl _ _).alloc (Nat.le_refl _) _⟩ ((Below.refl _ _).alloc (Nat.le_refl _) _)
 have he : (w.alloc (.cells (tCells 0 0 0 0 0 0 0 0) 61)).heap.size = w.heap.size + 1 := by simp
 have hrow : Hid (((w.alloc (.cells (tCells 0 0 0 0 0 0 0 0) 61)).alloc (.cells #[.int .u8 84, .int .u8 116, .int .u8 32, .int .u8 0] 5)).heap[w.heap.size + 1]? = some (.cells #[.int .u8 84, .int .u8 116, .int .u8 32, .int .u8 0] 5 (0, 0))) := Lib.hid (he ▸ heap_alloc_new _ _)
 clear he
 generalize hW : World.alloc w (.cells (tCells 0 0 0 0 0 0 0 0) 61) = W0 at *
 change World.alloc w (.cells #[.int .i64 0, .int .i64 0, .int .i64 0, .int .i64 0, .int .i64 0, .int .i64 0, .int .i64 0, .int .i64 0] 61) = W0 at hW
 rw [hW]
 clear hW
 generalize (W0.alloc (.cells #[.int .u8 84, .int .u8 116, .int .u8 32, .int .u8 0] 5)) = W1 at *
 go_loopw [3, 5, 6, 7, 10] (fun rv bv pv qv iv W => rv = .bool false ∧ ∃ k : Int, iv = .int .i64 k ∧ TS w W 0 0 0 0 0 0 0 0 ∧ Hid (W.heap[w.heap.size + 1]? = some (.cells #[.int .u8 84, .int .u8 116, .int .u8 32, .int .u8 0] 5 (0, 0))) ∧
  (k = 0 ∨ (k = 1 ∧ Hid (parseP 84 l = none)) ∨ (k = 2 ∧ Hid (parseP 84 l = none) ∧ Hid (parseP 116 l = none)) ∨ (k = 3 ∧ Hid (parseP 84 l = none) ∧ Hid (parseP 116 l = none) ∧ Hid (parseP 32 l = none)) ∨ (k = 4 ∧ Hid (parseP 84 l = none) ∧ Hid (parseP 116 l = none) ∧ Hid (parseP 32 l = none) ∧ Hid (parseP 0 l = none))))
  (fun _ _ _ _ iv _ => 4 - (intOf iv).toNat)
 case atStart => exact ⟨rfl, 0, rfl, S0, hrow, .inl rfl⟩
 case round =>
 clear S0 hrow
 obtain ⟨rfl, k, rfl, S, HROW, HK⟩ := hrel
 have hp0 := cellv HROW.out 0 _ rfl
 have hp1 := cellv HROW.out 1 _ rfl
 have hp2 := cellv HROW.out 2 _ rfl
 have hp3 := cellv HROW.out 3 _ rfl
 rcases HK with rfl | ⟨rfl, H1⟩ | ⟨rfl, H1, H2⟩ | ⟨rfl, H1, H2, H3⟩ | ⟨rfl, H1, H2, H3, H4⟩
 ·go_wp2_with fail
  refine (C84.out _).mono ?_
  rintro e W' ⟨hB, a0, a1, a2, a3, a4, a5, a6, a7, rfl, hx⟩
  have HROW2 : Hid (W'.heap[w.heap.size + 1]? = some (.cells #[.int .u8 84, .int .u8 116, .int .u8 32, .int .u8 0] 5 (0, 0))) := Lib.hid (hg_below hB (lt_of_heap HROW.out) HROW.out)
  replace S := S.step hB
  clear hp0 hp1 hp2 hp3 HROW hB
  have hnew : ∀ o, (W'.alloc o).heap[W'.heap.size]? = some o := fun o => heap_alloc_new _ _
  have S2 := S.step ((Below.refl W'.heap.size W').alloc (Nat.le_refl _) (.cells (tCells a0 a1 a2 a3 a4 a5 a6 a7) 61))
  cases hp : parseP 84 l with
  | none =>
   have HN : Hid (parseP 84 l = none) := Lib.hid hp
   clear hp hx
   simp only [Option.isSome_none]
   have hr2 := Lib.hid (hg_alloc (x := .cells (tCells a0 a1 a2 a3 a4 a5 a6 a7) 61) HROW2.out)
   go_wp2_with (refine store61 rfl _ _ rfl _ _ rfl rfl rfl rfl 61 _ (heap_alloc_new _ _) rfl ?_; rw [World.setRow_alloc_new])
   go_round
   case rel => exact ⟨rfl, 1, rfl, S2, hr2, .inr (.inl ⟨rfl, HN⟩)⟩
   case measure => simp only [intOf]; omega
  | some x =>
   have HN : Hid (timesP l = some [a0, a1, a2, a3, a4, a5, a6, a7]) := Lib.hid (by rw [← hx x hp]; exact times84 l hp)
   clear hp hx
   simp only [Option.isSome_some]
   go_wp2_with (first | (refine load61 rfl _ rfl _ rfl 61 _ _ (heap_alloc_new _ _) rfl ?_) | (refine store61 rfl _ _ rfl _ _ rfl rfl rfl rfl 61 _ S2.1 rfl ?_) | (refine store61 rfl _ _ rfl _ _ rfl rfl rfl rfl 61 _ (heap_alloc_new _ _) rfl ?_; rw [World.setRow_alloc_new]))
   exact bodyPost_ret (v := .tuple #[.agg (tCells a0 a1 a2 a3 a4 a5 a6 a7), .bool true]) (results_61 Tryz.results72 _ _ _ _ _ _ rfl (row28_set _ _ _ _ S2.1) rfl) rfl ⟨below_setRow S2.2 (Nat.le_refl _), a0, a1, a2, a3, a4, a5, a6, a7, by rw [HN.out]; rfl, by rw [HN.out]; intro x h; exact (Option.some.inj h).symm⟩
 ·go_wp2_with fail
  refine (C116.out _).mono ?_
  rintro e W' ⟨hB, a0, a1, a2, a3, a4, a5, a6, a7, rfl, hx⟩
  have HROW2 : Hid (W'.heap[w.heap.size + 1]? = some (.cells #[.int .u8 84, .int .u8 116, .int .u8 32, .int .u8 0] 5 (0, 0))) := Lib.hid (hg_below hB (lt_of_heap HROW.out) HROW.out)
  replace S := S.step hB
  clear hp0 hp1 hp2 hp3 HROW hB
  have hnew : ∀ o, (W'.alloc o).heap[W'.heap.size]? = some o := fun o => heap_alloc_new _ _
  have S2 := S.step ((Below.refl W'.heap.size W').alloc (Nat.le_refl _) (.cells (tCells a0 a1 a2 a3 a4 a5 a6 a7) 61))
  cases hp : parseP 116 l with
  | none =>
   have HN : Hid (parseP 116 l = none) := Lib.hid hp
   clear hp hx
   simp only [Option.isSome_none]
   have hr2 := Lib.hid (hg_alloc (x := .cells (tCells a0 a1 a2 a3 a4 a5 a6 a7) 61) HROW2.out)
   go_wp2_with (refine store61 rfl _ _ rfl _ _ rfl rfl rfl rfl 61 _ (heap_alloc_new _ _) rfl ?_; rw [World.setRow_alloc_new])
   go_round
   case rel => exact ⟨rfl, 2, rfl, S2, hr2, .inr (.inr (.inl ⟨rfl, H1, HN⟩))⟩
   case measure => simp only [intOf]; omega
  | some x =>
   have HN : Hid (timesP l = some [a0, a1, a2, a3, a4, a5, a6, a7]) := Lib.hid (by rw [← hx x hp]; exact times116 l H1.out hp)
   clear hp hx
   simp only [Option.isSome_some]
   go_wp2_with (first | (refine load61 rfl _ rfl _ rfl 61 _ _ (heap_alloc_new _ _) rfl ?_) | (refine store61 rfl _ _ rfl _ _ rfl rfl rfl rfl 61 _ S2.1 rfl ?_) | (refine store61 rfl _ _ rfl _ _ rfl rfl rfl rfl 61 _ (heap_alloc_new _ _) rfl ?_; rw [World.setRow_alloc_new]))
   exact bodyPost_ret (v := .tuple #[.agg (tCells a0 a1 a2 a3 a4 a5 a6 a7), .bool true]) (results_61 Tryz.results72 _ _ _ _ _ _ rfl (row28_set _ _ _ _ S2.1) rfl) rfl ⟨below_setRow S2.2 (Nat.le_refl _), a0, a1, a2, a3, a4, a5, a6, a7, by rw [HN.out]; rfl, by rw [HN.out]; intro x h; exact (Option.some.inj h).symm⟩
 ·go_wp2_with fail
  refine (C32.out _).mono ?_
  rintro e W' ⟨hB, a0, a1, a2, a3, a4, a5, a6, a7, rfl, hx⟩
  have HROW2 : Hid (W'.heap[w.heap.size + 1]? = some (.cells #[.int .u8 84, .int .u8 116, .int .u8 32, .int .u8 0] 5 (0, 0))) := Lib.hid (hg_below hB (lt_of_heap HROW.out) HROW.out)
  replace S := S.step hB
  clear hp0 hp1 hp2 hp3 HROW hB
  have hnew : ∀ o, (W'.alloc o).heap[W'.heap.size]? = some o := fun o => heap_alloc_new _ _
  have S2 := S.step ((Below.refl W'.heap.size W').alloc (Nat.le_refl _) (.cells (tCells a0 a1 a2 a3 a4 a5 a6 a7) 61))
  cases hp : parseP 32 l with
  | none =>
   have HN : Hid (parseP 32 l = none) := Lib.hid hp
   clear hp hx
   simp only [Option.isSome_none]
   have hr2 := Lib.hid (hg_alloc (x := .cells (tCells a0 a1 a2 a3 a4 a5 a6 a7) 61) HROW2.out)
   go_wp2_with (refine store61 rfl _ _ rfl _ _ rfl rfl rfl rfl 61 _ (heap_alloc_new _ _) rfl ?_; rw [World.setRow_alloc_new])
   go_round
   case rel => exact ⟨rfl, 3, rfl, S2, hr2, .inr (.inr (.inr (.inl ⟨rfl, H1, H2, HN⟩)))⟩
   case measure => simp only [intOf]; omega
  | some x =>
   have HN : Hid (timesP l = some [a0, a1, a2, a3, a4, a5, a6, a7]) := Lib.hid (by rw [← hx x hp]; exact times32 l H1.out H2.out hp)
   clear hp hx
   simp only [Option.isSome_some]
   go_wp2_with (first | (refine load61 rfl _ rfl _ rfl 61 _ _ (heap_alloc_new _ _) rfl ?_) | (refine store61 rfl _ _ rfl _ _ rfl rfl rfl rfl 61 _ S2.1 rfl ?_) | (refine store61 rfl _ _ rfl _ _ rfl rfl rfl rfl 61 _ (heap_alloc_new _ _) rfl ?_; rw [World.setRow_alloc_new]))
   exact bodyPost_ret (v := .tuple #[.agg (tCells a0 a1 a2 a3 a4 a5 a6 a7), .bool true]) (results_61 Tryz.results72 _ _ _ _ _ _ rfl (row28_set _ _ _ _ S2.1) rfl) rfl ⟨below_setRow S2.2 (Nat.le_refl _), a0, a1, a2, a3, a4, a5, a6, a7, by rw [HN.out]; rfl, by rw [HN.out]; intro x h; exact (Option.some.inj h).symm⟩
 ·go_wp2_with fail
  refine (C0.out _).mono ?_
  rintro e W' ⟨hB, a0, a1, a2, a3, a4, a5, a6, a7, rfl, hx⟩
  have HROW2 : Hid (W'.heap[w.heap.size + 1]? = some (.cells #[.int .u8 84, .int .u8 116, .int .u8 32, .int .u8 0] 5 (0, 0))) := Lib.hid (hg_below hB (lt_of_heap HROW.out) HROW.out)
  replace S := S.step hB
  clear hp0 hp1 hp2 hp3 HROW hB
  have hnew : ∀ o, (W'.alloc o).heap[W'.heap.size]? = some o := fun o => heap_alloc_new _ _
  have S2 := S.step ((Below.refl W'.heap.size W').alloc (Nat.le_refl _) (.cells (tCells a0 a1 a2 a3 a4 a5 a6 a7) 61))
  cases hp : parseP 0 l with
  | none =>
   have HN : Hid (parseP 0 l = none) := Lib.hid hp
   clear hp hx
   simp only [Option.isSome_none]
   have hr2 := Lib.hid (hg_alloc (x := .cells (tCells a0 a1 a2 a3 a4 a5 a6 a7) 61) HROW2.out)
   go_wp2_with (refine store61 rfl _ _ rfl _ _ rfl rfl rfl rfl 61 _ (heap_alloc_new _ _) rfl ?_; rw [World.setRow_alloc_new])
   go_round
   case rel => exact ⟨rfl, 4, rfl, S2, hr2, .inr (.inr (.inr (.inr ⟨rfl, H1, H2, H3, HN⟩)))⟩
   case measure => simp only [intOf]; omega
  | some x =>
   have HN : Hid (timesP l = some [a0, a1, a2, a3, a4, a5, a6, a7]) := Lib.hid (by rw [← hx x hp]; exact times0 l H1.out H2.out H3.out hp)
   clear hp hx
   simp only [Option.isSome_some]
   go_wp2_with (first | (refine load61 rfl _ rfl _ rfl 61 _ _ (heap_alloc_new _ _) rfl ?_) | (refine store61 rfl _ _ rfl _ _ rfl rfl rfl rfl 61 _ S2.1 rfl ?_) | (refine store61 rfl _ _ rfl _ _ rfl rfl rfl rfl 61 _ (heap_alloc_new _ _) rfl ?_; rw [World.setRow_alloc_new]))
   exact bodyPost_ret (v := .tuple #[.agg (tCells a0 a1 a2 a3 a4 a5 a6 a7), .bool true]) (results_61 Tryz.results72 _ _ _ _ _ _ rfl (row28_set _ _ _ _ S2.1) rfl) rfl ⟨below_setRow S2.2 (Nat.le_refl _), a0, a1, a2, a3, a4, a5, a6, a7, by rw [HN.out]; rfl, by rw [HN.out]; intro x h; exact (Option.some.inj h).symm⟩
 ·have T : Hid (timesP l = none) := Lib.hid (timesNo l H1.out H2.out H3.out H4.out)
  clear hp0 hp1 hp2 hp3
  go_wp2_with (refine store61 rfl _ _ rfl _ (tCells 0 0 0 0 0 0 0 0) rfl rfl rfl rfl 61 _ S.1 rfl ?_)
  exact bodyPost_ret (v := .tuple #[.agg (tCells 0 0 0 0 0 0 0 0), .bool false]) (results_61 Tryz.results72 _ _ _ _ _ _ rfl S.fin.1 rfl) rfl ⟨S.fin.2, 0, 0, 0, 0, 0, 0, 0, 0, by rw [T.out]; rfl, by rw [T.out]; intro x h; cases h⟩

theorem digits4 {l : Bs} (h : digits l ≠ 4 ∨ l[4]? ≠ some 45) : timeOf l = none := by
 by_cases h4 : l[4]? = some 45
 rotate_left
 ·exact timeOf_no h4
 match l, h4, h with
 | a :: b :: c :: d :: e :: r, h4, h =>
  have he : e = 45 := by simpa using h4
  subst he
  unfold timeOf
  rw [if_neg (by simp)]
  show (match amount [a, b, c, d] 10 with | none => none | some y => timeBehind y _) = none
  rw [amount4, if_neg]
  rintro ⟨ha, hb, hc, hd⟩
  rcases h with h | h
  ·apply h
   simp [isDig] at ha hb hc hd
   simp [digits, ha, hb, hc, hd]
  ·exact h (by simp)
theorem digits_at : ∀ (l : Bs) (k : Nat), k < digits l → digAt l k = true
 | [], k, h => by simp [digits] at h
 | c :: l, k, h => by
  unfold digits at h
  by_cases hc : 48 ≤ c.toNat ∧ c.toNat ≤ 57
  ·rw [if_pos hc] at h
   cases k with
   | zero => simpa [digAt, isDig] using hc
   | succ k => have := digits_at l k (by omega); simpa [digAt] using this
  ·rw [if_neg hc] at h; omega
theorem digits_drop : ∀ (l : Bs) (k : Nat), k ≤ digits l → digits (l.drop k) = digits l - k
 | l, 0, _ => by simp
 | [], k + 1, h => by simp [digits] at h
 | c :: l, k + 1, h => by
  unfold digits at h
  by_cases hc : 48 ≤ c.toNat ∧ c.toNat ≤ 57
  ·rw [if_pos hc] at h
   have := digits_drop l k (by omega)
   rw [List.drop_succ_cons, this]
   conv => rhs; unfold digits
   rw [if_pos hc]; omega
  ·rw [if_neg hc] at h; omega

set_option maxRecDepth 100000 in
set_option maxHeartbeats 4000000 in
theorem parseTimestamp_any (s : ByteArray) (l : Bs) (w : World) (hl : StrIs s l) (hs : s.size ≤ 1000) :
  Calls Tryz.prog 38 #[.string s] w (ParsePost (timeOf l) w) := by
 have CP : Hid (∀ w, Calls Tryz.prog 72 #[.string s] w (ParsePost (timeOf l) w)) := Lib.hid (fun w => by have := Parse_any s l w hl hs; rw [timesP_is] at this; exact this)
 have HL := Lib.hid hl
 have hdl := digits_le l
 have HSZ := Lib.hid hl.size
 have hdls : digits l ≤ s.size := by rw [hl.size]; exact hdl
 have HDN : Hid (digits l = digits l) := Lib.hid rfl
 clear hl
 go_enter Tryz.func38, Tryz.ntmps38
 go_upto_block 0 with fail
 have S0 : TS w (w.alloc (.cells (tCells 0 0 0 0 0 0 0 0) 61)) 0 0 0 0 0 0 0 0 := ⟨heap_alloc_new _ _, (Below.refl _ _).alloc (Nat.le_refl _) _⟩
 generalize hW : World.alloc w (.cells (tCells 0 0 0 0 0 0 0 0) 61) = W0 at *
 change World.alloc w (.cells #[.int .i64 0, .int .i64 0, .int .i64 0, .int .i64 0, .int .i64 0, .int .i64 0, .int .i64 0, .int .i64 0] 61) = W0 at hW
 rw [hW]
 clear hW
 go_cut [4, 5] (fun iv _ wc => iv = .int .i64 (digits l) ∧ W0 = wc)
 case first =>
  go_wp2_with fail
  go_loop [4, 5] (fun iv _ => ∃ k : Nat, k ≤ digits l ∧ iv = .int .i64 k) (fun iv _ => digits l - (intOf iv).toNat)
  case atStart => exact ⟨0, Nat.zero_le _, rfl⟩
  case round =>
   obtain ⟨k, hk, rfl⟩ := hrel
   by_cases hlt : k < digits l
   ·have hks : k < s.size := by omega
    have hksi : (k : Int) < (s.size : Int) := by omega
    have hk0 : (0 : Int) ≤ (k : Int) := by omega
    have hd := digits_at l k hlt
    have hdg : isDig s[k] = true := by unfold digAt at hd; rw [HL.out.get k hks] at hd; exact hd
    have hcd : 48 ≤ s[k].toNat ∧ s[k].toNat ≤ 57 := by simpa [isDig] using hdg
    have g1 : decide ((s[k].toNat : Int) < 48) = false := by simp; omega
    have g1b : (48 : Int) ≤ (s[k].toNat : Int) := by omega
    have g2 : decide ((57 : Int) < (s[k].toNat : Int)) = false := by simp; omega
    have g2b : (s[k].toNat : Int) ≤ 57 := by omega
    clear hd hdg hcd
    go_wp2
    go_round
    case rel => exact ⟨k + 1, by omega, by simp⟩
    case measure => simp only [intOf]; omega
   ·have hke : k = digits l := by omega
    by_cases hks : k < s.size
    ·have hksi : (k : Int) < (s.size : Int) := by omega
     have hk0 : (0 : Int) ≤ (k : Int) := by omega
     have hd : isDig s[k] = false := by
      cases hx : isDig s[k] with
      | false => rfl
      | true =>
       exfalso
       have h1 := digits_drop l k (by omega)
       have h2 := drop_cons s k hks
       rw [show s.data.toList = l from HL.out] at h2
       rw [h2] at h1
       have h3 : 48 ≤ s[k].toNat ∧ s[k].toNat ≤ 57 := by simpa [isDig] using hx
       rw [show digits (s[k] :: l.drop (k + 1)) = digits (l.drop (k + 1)) + 1 from if_pos h3] at h1
       omega
     have hcd : ¬ (48 ≤ s[k].toNat ∧ s[k].toNat ≤ 57) := by simpa [isDig] using hd
     have HKE : Hid (k = digits l) := Lib.hid hke
     clear hd hke hlt hk hdl hdls
     by_cases h48 : 48 ≤ s[k].toNat
     ·have g1 : decide ((s[k].toNat : Int) < 48) = false := by simp; omega
      have g1b : (48 : Int) ≤ (s[k].toNat : Int) := by omega
      have g2 : (57 : Int) < (s[k].toNat : Int) := by omega
      clear hcd h48
      go_wp2
      go_meet
      case rel => exact ⟨by rw [HKE.out], rfl⟩
     ·have g1 : (s[k].toNat : Int) < 48 := by omega
      clear hcd h48
      go_wp2
      go_meet
      case rel => exact ⟨by rw [HKE.out], rfl⟩
    ·have hksi : decide ((k : Int) < (s.size : Int)) = false := by simp; omega
     have hksj : (s.size : Int) ≤ (k : Int) := by omega
     have HKE : Hid (k = digits l) := Lib.hid hke
     clear hke hlt hk hdl hdls hks
     go_wp2
     go_meet
     case rel => exact ⟨by rw [HKE.out], rfl⟩
 case rest =>
 obtain ⟨rfl, rfl⟩ := hcut
 have D4 : Hid (digits l ≠ 4 ∨ l[4]? ≠ some 45 → timeOf l = none) := Lib.hid digits4
 clear HDN
 generalize digits l = n at *
 have hF : ∀ (W : World), TS w W 0 0 0 0 0 0 0 0 → TS w W 0 0 0 0 0 0 0 0 := fun _ h => h
 by_cases h4 : n = 4
 rotate_left
 ·have T : Hid (timeOf l = none) := Lib.hid (D4.out (.inl h4))
  have k1 : ((n : Int) != 4) = true := by simp; omega
  clear h4 CP
  go_wp2_with (refine store61 rfl _ _ rfl _ (tCells 0 0 0 0 0 0 0 0) rfl rfl rfl rfl 61 _ S0.1 rfl ?_)
  exact bodyPost_ret (v := .tuple #[.agg (tCells 0 0 0 0 0 0 0 0), .bool false]) (results_61 Tryz.results38 _ _ _ _ _ _ rfl S0.fin.1 rfl) rfl ⟨S0.fin.2, 0, 0, 0, 0, 0, 0, 0, 0, by rw [T.out]; rfl, by rw [T.out]; intro x h; cases h⟩
 have k1 : ((n : Int) != 4) = false := by simp; omega
 have H4 := Lib.hid h4
 by_cases hsn : n = s.size
 ·have T : Hid (timeOf l = none) := Lib.hid (D4.out (.inr (by rw [List.getElem?_eq_none (by have := HSZ.out; omega)]; simp)))
  have k2 : ((n : Int) == (s.size : Int)) = true := by simp; omega
  clear h4 hsn CP
  go_wp2_with (refine store61 rfl _ _ rfl _ (tCells 0 0 0 0 0 0 0 0) rfl rfl rfl rfl 61 _ S0.1 rfl ?_)
  exact bodyPost_ret (v := .tuple #[.agg (tCells 0 0 0 0 0 0 0 0), .bool false]) (results_61 Tryz.results38 _ _ _ _ _ _ rfl S0.fin.1 rfl) rfl ⟨S0.fin.2, 0, 0, 0, 0, 0, 0, 0, 0, by rw [T.out]; rfl, by rw [T.out]; intro x h; cases h⟩
 have k2 : ((n : Int) == (s.size : Int)) = false := by simp; omega
 have hlt : n < s.size := by omega
 have hlti : (n : Int) < (s.size : Int) := by omega
 have hn0 : (0 : Int) ≤ (n : Int) := by omega
 have HB : Hid (l[4]? = some s[n]) := Lib.hid (by have h := HL.out.get n hlt; rw [← h, H4.out])
 clear h4 hsn
 by_cases hc : s[n] = 45
 rotate_left
 ·have T : Hid (timeOf l = none) := Lib.hid (D4.out (.inr (by rw [HB.out]; simpa using hc)))
  have k3 : ((s[n].toNat : Int) != 45) = true := neq_yes (c := s[n]) (d := 45) hc
  clear hc CP
  go_wp2_with (refine store61 rfl _ _ rfl _ (tCells 0 0 0 0 0 0 0 0) rfl rfl rfl rfl 61 _ S0.1 rfl ?_)
  exact bodyPost_ret (v := .tuple #[.agg (tCells 0 0 0 0 0 0 0 0), .bool false]) (results_61 Tryz.results38 _ _ _ _ _ _ rfl S0.fin.1 rfl) rfl ⟨S0.fin.2, 0, 0, 0, 0, 0, 0, 0, 0, by rw [T.out]; rfl, by rw [T.out]; intro x h; cases h⟩
 have k3 : ((s[n].toNat : Int) != 45) = false := neq_no (c := s[n]) (d := 45) hc
 clear hc HB D4
 go_wp2_with fail
 refine (CP.out _).mono ?_
 rintro e W' ⟨hB, a0, a1, a2, a3, a4, a5, a6, a7, rfl, hx⟩
 replace S0 := S0.step hB
 have S1 : W'.heap[w.heap.size]? = some (.cells (tCells 0 0 0 0 0 0 0 0) 61 (0, 0)) := S0.1
 clear CP hB
 cases hp : timeOf l with
 | none =>
  have T := Lib.hid hp
  clear hp hx
  simp only [Option.isSome_none]
  go_wp2_with (refine store61 rfl _ _ rfl _ (tCells a0 a1 a2 a3 a4 a5 a6 a7) rfl rfl rfl rfl 61 _ S1 rfl ?_)
  exact bodyPost_ret (v := .tuple #[.agg (tCells a0 a1 a2 a3 a4 a5 a6 a7), .bool false]) (results_61 Tryz.results38 _ _ _ _ _ _ rfl (row28_set _ _ _ _ S1) rfl) rfl ⟨below_setRow S0.2 (Nat.le_refl _), a0, a1, a2, a3, a4, a5, a6, a7, by rw [T.out]; rfl, by rw [T.out]; intro x h; cases h⟩
 | some x =>
  have HX := Lib.hid (hx x hp)
  have T := Lib.hid hp
  clear hp hx
  simp only [Option.isSome_some]
  go_wp2_with (refine store61 rfl _ _ rfl _ (tCells a0 a1 a2 a3 a4 a5 a6 a7) rfl rfl rfl rfl 61 _ S1 rfl ?_)
  exact bodyPost_ret (v := .tuple #[.agg (tCells a0 a1 a2 a3 a4 a5 a6 a7), .bool true]) (results_61 Tryz.results38 _ _ _ _ _ _ rfl (row28_set _ _ _ _ S1) rfl) rfl ⟨below_setRow S0.2 (Nat.le_refl _), a0, a1, a2, a3, a4, a5, a6, a7, by rw [T.out]; rfl, by rw [T.out]; intro y h; rw [← Option.some.inj h]; exact HX.out⟩
end Go.Proofs.YtillamhoakohdaaGreatDoor
namespace Go.Proofs.YtillamhoakohdaaGreatDoor

def NoPf (t : Bs) : Prop := ∀ c r, t = 48 :: c :: r → c ≠ 98 ∧ c ≠ 66 ∧ c ≠ 111 ∧ c ≠ 79 ∧ c ≠ 120 ∧ c ≠ 88
theorem lead_first {l : Bs} (h : lead l) : (∃ c r, l = c :: r ∧ c.toNat < 65) ∧ (∃ c r, (sgn l).1 = c :: r ∧ c.toNat < 65) ∧ NoPf (sgn l).1 := by
 rcases h with h | h
 ·cases l with
  | nil => cases h
  | cons c r =>
   simp only [List.head?_cons, Option.some.injEq] at h
   subst h
   have e : (sgn (46 :: r)).1 = 46 :: r := by rw [sgn_cons]; rfl
   refine ⟨⟨46, r, rfl, by decide⟩, ⟨46, r, e, by decide⟩, ?_⟩
   rw [e]
   intro c q hq
   simp only [List.cons.injEq] at hq
   exact absurd hq.1 (by decide)
 ·have h2 : real l = (decide ((dotted (digits (sgn l).1) ((sgn l).1.drop (digits (sgn l).1))).2 ≠ 0) && expo (dotted (digits (sgn l).1) ((sgn l).1.drop (digits (sgn l).1))).1) := rfl
  rw [h2, Bool.and_eq_true] at h
  obtain ⟨h3, h4⟩ := h
  have hl : ∀ t, (sgn l).1 = t → (∃ c r, t = c :: r ∧ c.toNat < 65) → ∃ c r, l = c :: r ∧ c.toNat < 65 := by
   intro t ht ⟨c, r, hc, hlt⟩
   cases l with
   | nil => rw [show (sgn ([] : Bs)).1 = [] from rfl] at ht; rw [hc] at ht; cases ht
   | cons x y =>
    rw [sgn_cons] at ht
    by_cases h1 : x = 45
    ·exact ⟨x, y, rfl, by rw [h1]; decide⟩
    ·rw [if_neg h1] at ht
     by_cases h5 : x = 43
     ·exact ⟨x, y, rfl, by rw [h5]; decide⟩
     ·rw [if_neg h5, hc] at ht
      simp only [List.cons.injEq] at ht
      exact ⟨x, y, rfl, by rw [ht.1]; exact hlt⟩
  generalize hT : (sgn l).1 = t at *
  have hf : ∃ c r, t = c :: r ∧ c.toNat < 65 := by
   cases t with
   | nil => exact absurd h3 (by decide)
   | cons c r =>
    refine ⟨c, r, rfl, ?_⟩
    by_cases hd : isDig c = true
    ·rw [isDig_eq] at hd; simp at hd; omega
    ·rw [digits_cons_no hd] at h3
     by_cases h46 : c = 46
     ·rw [h46]; decide
     ·rw [List.drop_zero] at h3
      unfold dotted at h3
      simp [h46] at h3
  refine ⟨hl t rfl hf, hf, ?_⟩
  intro c r hc
  subst hc
  rw [digits_cons_yes (by decide)] at h3 h4
  have key : ∀ x : UInt8, ¬ isDig x = true → x ≠ 46 → x ≠ 101 → x ≠ 69 → c ≠ x := by
   rintro x hx h46 h101 h69 rfl
   rw [digits_cons_no hx] at h4
   simp only [Nat.zero_add, List.drop_succ_cons, List.drop_zero] at h4
   unfold dotted expo at h4
   simp [h46, h101, h69] at h4
  refine ⟨key 98 ?_ ?_ ?_ ?_, key 66 ?_ ?_ ?_ ?_, key 111 ?_ ?_ ?_ ?_, key 79 ?_ ?_ ?_ ?_, key 120 ?_ ?_ ?_ ?_, key 88 ?_ ?_ ?_ ?_⟩ <;> decide
theorem same_trim {ds : Bs} {dp : Int} {d : Nat × Int} (h : SameDec ds dp d) : SameDec (trimR ds) (if trimR ds = [] then 0 else dp) d := by
 obtain ⟨a, b, e, hab⟩ := h
 obtain ⟨c, h1, h2, _, _⟩ := trimR_val _ ds rfl
 by_cases h0 : trimR ds = []
 ·rw [if_pos h0, h0]
  rw [h2, h0, show decV ([] : Bs) = 0 from rfl, Nat.zero_mul, Nat.zero_mul] at e
  have hN : d.1 = 0 := by
   rcases Nat.mul_eq_zero.1 e.symm with h | h
   ·exact h
   ·exact absurd h (Nat.ne_of_gt (Nat.pow_pos (by omega)))
  refine ⟨(-d.2).toNat, d.2.toNat, by rw [hN]; simp [decV, pre], ?_⟩
  show ((d.2.toNat : Nat) : Int) - ((-d.2).toNat : Nat) = d.2 - 0 + ((0 : Nat) : Int)
  omega
 ·rw [if_neg h0]
  refine ⟨a + c, b, ?_, by omega⟩
  rw [← e, h2, Nat.pow_add, Nat.mul_comm (10 ^ a)]
  simp only [Nat.mul_assoc]
theorem trim_canon {ds : Bs} (hd : Dig ds) (h : ds = [] ∨ dig0 ds 0 ≠ 0) : trimR ds = [] ∨ Canon (trimR ds) := by
 rcases h with h | h
 ·left; rw [h]; rfl
 ·right; exact Canon.trim hd h
theorem trimR_len (ds : Bs) : (trimR ds).length ≤ ds.length := by
 obtain ⟨c, h1, _, _, _⟩ := trimR_val _ ds rfl
 omega
theorem uok_sgn (l : Bs) : uok 2 l = uok 2 (sgn l).1 := by
 cases l with
 | nil => rfl
 | cons c r =>
  rw [sgn_cons]
  by_cases h1 : c = 45
  ·rw [if_pos h1, h1]
   show uok 2 (45 :: r) = uok 2 r
   conv => lhs; unfold uok
   rw [if_neg (by decide), if_neg (by decide), if_neg (by decide)]
  ·rw [if_neg h1]
   by_cases h2 : c = 43
   ·rw [if_pos h2, h2]
    show uok 2 (43 :: r) = uok 2 r
    conv => lhs; unfold uok
    rw [if_neg (by decide), if_neg (by decide), if_neg (by decide)]
   ·rw [if_neg h2]
theorem pf_low {l : Bs} (h : uok 2 (sgn l).1 = false) : pf l = none := by
 refine pf_is ?_
 unfold PfIs
 rw [uok_sgn, h, if_neg (by simp)]
theorem pf_none {l : Bs} (h : readP (sgn l).1 = none) : pf l = none := by
 refine pf_is ?_
 unfold PfIs
 by_cases hu : uok 2 l = true
 ·have := readP_is l hu
  rw [if_neg]
  rintro ⟨_, h2⟩
  obtain ⟨ds, dp, h3, _⟩ := this.1 h2
  rw [h] at h3; cases h3
 ·rw [if_neg (fun h2 => hu h2.1)]
theorem pf_some {l ds : Bs} {dp : Int} (hu : uok 2 (sgn l).1 = true) (h : readP (sgn l).1 = some (ds, dp)) :
  Dig ds ∧ (ds = [] ∨ dig0 ds 0 ≠ 0) ∧ ∃ d, SameDec ds dp d ∧ ∀ x, FltIs (sgn l).2.1 d x → pf l = x := by
 rw [← uok_sgn] at hu
 have hr := readP_is l hu
 cases hb : real (bare l) with
 | false => rw [hr.2 hb] at h; cases h
 | true =>
  obtain ⟨ds', dp', h3, h4, h5, h6⟩ := hr.1 hb
  rw [h] at h3
  simp only [Option.some.injEq, Prod.mk.injEq] at h3
  obtain ⟨rfl, rfl⟩ := h3
  refine ⟨h4, h5, _, h6, ?_⟩
  intro x hx
  refine pf_is ?_
  unfold PfIs
  rw [if_pos ⟨hu, hb⟩, (sgn_bare hu).1]
  rw [(sgn_bare hu).1] at hx
  exact hx
end Go.Proofs.YtillamhoakohdaaGreatDoor

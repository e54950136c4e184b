/-
  Walks: the reference's times.
-/
import Derived.BigRegion
import Derived.Deep.RegionLaw
import Derived.Test.YtillamhoakohdaaGreatDoorM07
set_option linter.unusedVariables false
set_option linter.unusedSimpArgs false
namespace Go.Proofs.YtillamhoakohdaaGreatDoor
open Go.RowKit
attribute [local go_sem] setCell_drewN

def tCells (a0 a1 a2 a3 a4 a5 a6 a7 : Int) : Array Value := #[.int .i64 a0, .int .i64 a1, .int .i64 a2, .int .i64 a3, .int .i64 a4, .int .i64 a5, .int .i64 a6, .int .i64 a7]
theorem info25 : (Tryz.prog.info? 25).map (·.size) = some 8 := by kernel_rfl

theorem results_25 {fn : Func} {p u : Tmp} (h : fn.results = #[.cell p 25, .tmp u]) (tmps : Array Value) (w : World) (g : Nat) (t : TypeId) (cs : Array Value) (fr : Nat × Nat)
  (hp : tmps.getD p undef = .pointer (some ⟨g, 0, none⟩)) (hg : w.heap[g]? = some (.cells cs t fr)) (hn : cs.size = 8) :
  (results fn tmps).run Tryz.prog w = .ok (.tuple #[.agg cs, tmps.getD u undef]) w := by
 rw [results_cell_tmp h, hp]
 have h2 := run_loadVar_row (P := Tryz.prog) w g t 25 cs fr _ hg Tryz.underlying25 rfl (by rw [info25, hn])
 simp [asAddr, Result.andThen, h2]
theorem store25 {ops : Array Oper} {rest : List Oper} {o : Oper} {a : Act} {w : World} {Q : Exit → Act → World → Prop} (hgd : o.guard = none) (x y : Operand) (ho : o.op = .store 25 x y)
  (g : Nat) (cells : Array Value) (hx : a.eval x = .pointer (some ⟨g, 0, none⟩)) (hy : a.eval y = .agg cells) (hc : cells.size = 8) (h1 : cells.toList.all (·.oneCell') = true)
  (t : TypeId) (old : Array Value) (hg : w.heap[g]? = some (.cells old t (0, 0))) (hold : old.size = 8)
  (h : wpList Tryz.prog ops Q rest (a.put o.dst undef) (w.setRow g cells)) : wpList Tryz.prog ops Q (o :: rest) a w :=
 wpList_store_row hgd 25 x y ho g cells hx hy t old hg (by rw [info25, hc]) (by rw [hold, hc]) (by rw [← Array.all_toList]; exact h1) h
structure St (w0 w : World) (b0 b1 b2 : Nat) (l : Bs) (bad : Bool) (cs : Array Value) : Prop where
 below : Below w0.heap.size w0 w
 n0 : w0.heap.size ≤ b0
 n1 : b0 < b1
 n2 : b1 < b2
 h0 : w.heap[b0]? = some (.cells (tCells 0 0 0 0 0 0 0 0) 25 (0, 0))
 h1 : ClkAt w b1 l bad
 h2 : w.heap[b2]? = some (.cells cs 25 (0, 0))

theorem lt_of_heap {w : World} {g : Nat} {o : Obj} (h : w.heap[g]? = some o) : g < w.heap.size := by
 obtain ⟨h1, _⟩ := Array.getElem?_eq_some_iff.1 h; exact h1
theorem St.step {w0 w w' : World} {b0 b1 b2 : Nat} {l l' : Bs} {bad bad' : Bool} {cs : Array Value} (h : St w0 w b0 b1 b2 l bad cs) (hk : ClkAt w' b1 l' bad') (hg : w.grownBy w' (some b1)) : St w0 w' b0 b1 b2 l' bad' cs :=
  ⟨h.below.grown hg h.below.size (fun k hk => by cases hk; have := h.n0; have := h.n1; omega), h.n0, h.n1, h.n2,
   (hg.block _ (lt_of_heap h.h0) (by have := h.n1; simp; omega)).trans h.h0, hk, (hg.block _ (lt_of_heap h.h2) (by have := h.n2; simp; omega)).trans h.h2⟩
theorem St.set {w0 w : World} {b0 b1 b2 : Nat} {l : Bs} {bad : Bool} {cs : Array Value} (h : St w0 w b0 b1 b2 l bad cs) (i : Nat) (v : Value) : St w0 (w.setCell ⟨b2, i, none⟩ v) b0 b1 b2 l bad (cs.setIfInBounds i v) := by
 have e0 := h.n0; have e1 := h.n1; have e2 := h.n2
 refine ⟨h.below.setCell (by simp; omega) v, h.n0, h.n1, h.n2, ?_, ?_, heap_setCell_same _ _ _ _ _ _ h.h2⟩
 ·rw [heap_setCell_other _ _ _ _ (by simp; omega)]; exact h.h0
 ·obtain ⟨r, hr, hg⟩ := h.h1
  exact ⟨r, hr, by rw [heap_setCell_other _ _ _ _ (by simp; omega)]; exact hg⟩
theorem St.cell {w0 w : World} {b0 b1 b2 : Nat} {l : Bs} {bad : Bool} {cs : Array Value} (h : St w0 w b0 b1 b2 l bad cs) (i : Nat) : w.cell? ⟨b2, i, none⟩ = cs[i]? ∧ w.frozen? ⟨b2, i, none⟩ = false :=
 ⟨cell_of_row _ _ _ _ _ _ h.h2, frozen_of_row _ _ _ _ _ h.h2⟩
theorem St.clk {w0 w : World} {b0 b1 b2 : Nat} {l : Bs} {bad : Bool} {cs : Array Value} (h : St w0 w b0 b1 b2 l bad cs) :
  ∃ r, StrIs r l ∧ w.cell? ⟨b1, 0, none⟩ = some (.string r) ∧ w.cell? ⟨b1, 1, none⟩ = some (.bool bad) ∧ w.frozen? ⟨b1, 0, none⟩ = false ∧ w.heap[b1]? = some (.cells #[.string r, .bool bad] 115 (0, 0)) := by
 obtain ⟨r, hr, hg⟩ := h.h1
 exact ⟨r, hr, cell_of_row _ _ 0 _ _ _ hg, cell_of_row _ _ 1 _ _ _ hg, frozen_of_row _ _ _ _ _ hg, hg⟩

def TimePost (l : Bs) (w : World) (e : Ending) (w' : World) : Prop :=
 Below w.heap.size w w' ∧ ∃ a0 a1 a2 a3 a4 a5 a6 a7, e = .returned (.tuple #[.agg (tCells a0 a1 a2 a3 a4 a5 a6 a7), .bool (timeOf l).isSome]) ∧ ∀ x, timeOf l = some x → x = [a0, a1, a2, a3, a4, a5, a6, a7]

theorem timeOf_no {l : Bs} (h : l[4]? ≠ some 45) : timeOf l = none := by unfold timeOf; rw [if_pos h]

theorem num2_bd (l : Bs) : 0 ≤ (num2 l).1 ∧ (num2 l).1 ≤ 99 := by
 have key : ∀ c, isDig c = true → 0 ≤ dig c ∧ dig c ≤ 9 := by intro c h; simp [isDig] at h; simp [dig]; omega
 match l with
 | [] => simp [num2]
 | [c1] =>
  by_cases d1 : isDig c1 = true
  ·have := key _ d1; simp [num2, d1]; omega
  ·simp [num2, d1]
 | c1 :: c2 :: r =>
  by_cases d1 : isDig c1 = true
  ·have k1 := key _ d1
   by_cases d2 : isDig c2 = true
   ·have k2 := key _ d2; simp [num2, d1, d2]; omega
   ·simp [num2, d1, d2]; omega
  ·simp [num2, d1]

theorem h_alloc3 (w : World) (A B C : Obj) (n : Nat) : ((((w.alloc A).drewN n).alloc B).alloc C).heap[w.heap.size]? = some A ∧ ((((w.alloc A).drewN n).alloc B).alloc C).heap[w.heap.size + 1]? = some B ∧ ((((w.alloc A).drewN n).alloc B).alloc C).heap[w.heap.size + 1 + 1]? = some C := by
 have e1 : ((w.alloc A).drewN n).heap.size = w.heap.size + 1 := by simp
 have e2 : (((w.alloc A).drewN n).alloc B).heap.size = w.heap.size + 1 + 1 := by simp
 refine ⟨hg_alloc (hg_alloc (hg_drewN (heap_alloc_new _ _))), hg_alloc ?_, ?_⟩
 ·rw [← e1]; exact heap_alloc_new _ _
 ·rw [← e2]; exact heap_alloc_new _ _
theorem num2_len (l : Bs) : (num2 l).2.2.length ≤ l.length := by
 unfold num2
 split
 ·split
  ·split <;> simp <;> omega
  ·simp
 ·split <;> simp
 ·simp
theorem clkNum_len {lo hi v : Int} {l l' : Bs} {b b' : Bool} (h : clkNum lo hi l b = (v, l', b')) (hl : l.length ≤ 1000) : l'.length ≤ 1000 := by
 have := congrArg (fun x => x.2.1) h
 simp only [clkNum] at this
 have h2 := num2_len l
 rw [this] at h2; omega
theorem clkSign_len {c : UInt8} {l l' : Bs} {b b' : Bool} (h : clkSign c l b = (l', b')) (hl : l.length ≤ 1000) : l'.length ≤ 1000 := by
 have := congrArg (fun x => x.1) h
 simp only at this
 subst this
 unfold clkSign
 split
 ·split <;> simp at hl ⊢ <;> omega
 ·simp

theorem byte_eq {c d : UInt8} (h : c = d) : ((c.toNat : Int) == (d.toNat : Int)) = true := by subst h; simp
theorem clkBlanks_len {bad : Bool} {l : Bs} (hl : l.length ≤ 1000) : (clkBlanks l bad).1.length ≤ 1000 := by
 unfold clkBlanks
 split
 ·split
  ·have : ∀ r : Bs, (r.dropWhile (· = 32)).length ≤ r.length := fun r => (List.dropWhile_sublist _).length_le
   have := this ‹_›
   simp at hl ⊢; omega
  ·exact hl
 ·simp
theorem nanoGo_len : ∀ (l : Bs) (k : Nat) (n : Int), (nanoGo k n l).2.2.length ≤ l.length
 | [], _, _ => by simp [nanoGo]
 | c :: l, k, n => by
  unfold nanoGo; split
  ·have := nanoGo_len l (k + 1) (if k < 10 then 10 * n + dig c else n); simp; omega
  ·simp
theorem clkNano_len {l : Bs} (hl : l.length ≤ 1000) : (clkNano l).2.length ≤ 1000 := by
 unfold clkNano
 split
 ·rename_i c0 c1 r
  split
  ·have := nanoGo_len (c1 :: r) 1 0; simp at this hl ⊢; omega
  ·exact hl
 ·exact hl

def set8 (W : World) (g : Nat) (x0 x1 x2 x3 x4 x5 x6 x7 : Int) : World :=
 ((((((((W.setCell ⟨g, 0, none⟩ (.int .i64 x0)).setCell ⟨g, 1, none⟩ (.int .i64 x1)).setCell ⟨g, 2, none⟩ (.int .i64 x2)).setCell ⟨g, 3, none⟩ (.int .i64 x3)).setCell ⟨g, 4, none⟩ (.int .i64 x4)).setCell ⟨g, 5, none⟩ (.int .i64 x5)).setCell ⟨g, 6, none⟩ (.int .i64 x6)).setCell ⟨g, 7, none⟩ (.int .i64 x7)).drew
theorem cell_step {w0 W : World} {B g : Nat} {cs : Array Value} (h : W.heap[g]? = some (.cells cs 25 (0, 0)) ∧ Below B w0 W) (hB : B ≤ g) (i : Nat) (v : Value) :
  (W.setCell ⟨g, i, none⟩ v).heap[g]? = some (.cells (cs.setIfInBounds i v) 25 (0, 0)) ∧ Below B w0 (W.setCell ⟨g, i, none⟩ v) :=
 ⟨heap_setCell_same _ _ _ _ _ _ h.1, h.2.setCell hB v⟩
theorem set8_fin {w0 W : World} {B g : Nat} (h : W.heap[g]? = some (.cells (tCells 0 0 0 0 0 0 0 0) 25 (0, 0)) ∧ Below B w0 W) (hB : B ≤ g) (x0 x1 x2 x3 x4 x5 x6 x7 : Int) :
  (set8 W g x0 x1 x2 x3 x4 x5 x6 x7).heap[g]? = some (.cells (tCells x0 x1 x2 x3 x4 x5 x6 x7) 25 (0, 0)) ∧ Below B w0 (set8 W g x0 x1 x2 x3 x4 x5 x6 x7) := by
 have k := h
 replace k := cell_step k hB 0 (.int .i64 x0)
 replace k := cell_step k hB 1 (.int .i64 x1)
 replace k := cell_step k hB 2 (.int .i64 x2)
 replace k := cell_step k hB 3 (.int .i64 x3)
 replace k := cell_step k hB 4 (.int .i64 x4)
 replace k := cell_step k hB 5 (.int .i64 x5)
 replace k := cell_step k hB 6 (.int .i64 x6)
 replace k := cell_step k hB 7 (.int .i64 x7)
 simp only [tCells, List.setIfInBounds_toArray, List.set_cons_succ, List.set_cons_zero] at k
 unfold set8 tCells
 generalize ((((((((W.setCell _ _).setCell _ _).setCell _ _).setCell _ _).setCell _ _).setCell _ _).setCell _ _).setCell _ _) = V at *
 exact ⟨k.1, below_drewN (n := 1) k.2⟩
theorem St.fin {w0 w : World} {b0 b1 b2 : Nat} {l : Bs} {bad : Bool} {cs : Array Value} (h : St w0 w b0 b1 b2 l bad cs) (x0 x1 x2 x3 x4 x5 x6 x7 : Int) :
  (set8 w b0 x0 x1 x2 x3 x4 x5 x6 x7).heap[b0]? = some (.cells (tCells x0 x1 x2 x3 x4 x5 x6 x7) 25 (0, 0)) ∧ Below w0.heap.size w0 (set8 w b0 x0 x1 x2 x3 x4 x5 x6 x7) :=
 set8_fin ⟨h.h0, h.below⟩ h.n0 x0 x1 x2 x3 x4 x5 x6 x7
theorem St.chop {w0 w : World} {b0 b1 b2 : Nat} {l l' : Bs} {bad : Bool} {cs : Array Value} {r r' : ByteArray} (h : St w0 w b0 b1 b2 l bad cs) (hr : StrIs r' l')
  (hg : w.heap[b1]? = some (.cells #[.string r, .bool bad] 115 (0, 0))) : St w0 (w.setCell ⟨b1, 0, none⟩ (.string r')) b0 b1 b2 l' bad cs := by
 have e0 := h.n0; have e1 := h.n1; have e2 := h.n2
 refine ⟨h.below.setCell (by simp; omega) _, h.n0, h.n1, h.n2, ?_, ⟨r', hr, ?_⟩, ?_⟩
 ·rw [heap_setCell_other _ _ _ _ (by simp; omega)]; exact h.h0
 ·exact heap_setCell_same _ _ 0 _ _ _ hg
 ·rw [heap_setCell_other _ _ _ _ (by simp; omega)]; exact h.h2

set_option maxRecDepth 100000 in
set_option maxHeartbeats 4000000 in
theorem ylTime_any (s : ByteArray) (l : Bs) (w : World) (hl : StrIs s l) (hs : s.size ≤ 1000) :
  Calls Tryz.prog 27 #[.string s] w (TimePost l w) := by
 have hll : l.length ≤ 1000 := by rw [← hl.size]; exact hs
 by_cases h4 : l[4]? = some 45
 rotate_left
 ·have T := Lib.hid (timeOf_no h4)
  have fin : ∀ n, Below w.heap.size w ((w.alloc (.cells (tCells 0 0 0 0 0 0 0 0) 25)).drewN n) := fun n => below_drewN ((Below.refl _ _).alloc (Nat.le_refl _) _) n
  by_cases hz : 4 < s.size
  ·have f1 : ((s[4].toNat : Int) == 45) = false := by
    have := hl.get 4 hz
    exact byte_ne (d := 45) (fun e => h4 (by rw [this, e]))
   have hzi : (4 : Int) < (s.size : Int) := by omega
   clear h4
   go_enter Tryz.func27, Tryz.ntmps27
   go_wp2
   go_quiet (fail)
   go_wp2_with (refine store25 rfl _ _ rfl _ _ rfl rfl (by rfl) (by rfl) 25 _ (hg_drewN (heap_alloc_new _ _)) (by rfl) ?_)
   exact bodyPost_ret (v := .tuple #[.agg (tCells 0 0 0 0 0 0 0 0), .bool false]) (results_25 Tryz.results27 _ _ _ _ _ _ rfl (row28_set _ _ _ _ (hg_drewN (heap_alloc_new _ _))) rfl) rfl ⟨below_setRow (fin _) (Nat.le_refl _), 0, 0, 0, 0, 0, 0, 0, 0, by rw [T.out]; rfl, by rw [T.out]; intro x h; cases h⟩
  ·have hzi : decide ((4 : Int) < (s.size : Int)) = false := by simp; omega
   have hzj : (s.size : Int) ≤ 4 := by omega
   clear h4
   go_enter Tryz.func27, Tryz.ntmps27
   go_wp2
   go_quiet (fail)
   go_wp2_with (refine store25 rfl _ _ rfl _ _ rfl rfl (by rfl) (by rfl) 25 _ (hg_drewN (heap_alloc_new _ _)) (by rfl) ?_)
   exact bodyPost_ret (v := .tuple #[.agg (tCells 0 0 0 0 0 0 0 0), .bool false]) (results_25 Tryz.results27 _ _ _ _ _ _ rfl (row28_set _ _ _ _ (hg_drewN (heap_alloc_new _ _))) rfl) rfl ⟨below_setRow (fin _) (Nat.le_refl _), 0, 0, 0, 0, 0, 0, 0, 0, by rw [T.out]; rfl, by rw [T.out]; intro x h; cases h⟩
 have hz : 4 < s.size := by
  rw [hl.size]
  obtain ⟨h, _⟩ := List.getElem?_eq_some_iff.1 h4; exact h
 have hzi : (4 : Int) < (s.size : Int) := by omega
 have hc4 : s[4] = 45 := by have := hl.get 4 hz; rw [h4] at this; injection this with this; exact this.symm
 have htk : StrIs (s.extract 0 4) (l.take 4) := by unfold StrIs; rw [Lib.extract_data, hl]; rfl
 have hdr := hl.drop 5
 have HT : Hid (timeOf l = match amount (l.take 4) 10 with | none => none | some y => timeBehind y (l.drop 5)) := Lib.hid (by unfold timeOf; rw [if_neg (by simpa using h4)]; rfl)
 clear h4
 go_enter Tryz.func27, Tryz.ntmps27
 go_wp2
 go_quiet (fail)
 go_wp2_with fail
 refine (ylAmount_any _ _ 10 _ htk (by rw [htk.size, List.length_take]; unfold maxLen; omega) (by omega) (by omega)).mono ?_
 rintro e w' ⟨rfl, ⟨ha, m, rfl⟩ | ⟨y, ha, hy0, hy1, rfl⟩⟩
 ·have T : Hid (timeOf l = none) := Lib.hid (by rw [HT.out, ha])
  go_wp2_with (refine store25 rfl _ _ rfl _ _ rfl rfl (by rfl) (by rfl) 25 _ (hg_drewN (heap_alloc_new _ _)) (by rfl) ?_)
  exact bodyPost_ret (v := .tuple #[.agg (tCells 0 0 0 0 0 0 0 0), .bool false]) (results_25 Tryz.results27 _ _ _ _ _ _ rfl (row28_set _ _ _ _ (hg_drewN (heap_alloc_new _ _))) rfl) rfl ⟨below_setRow (below_drewN ((Below.refl _ _).alloc (Nat.le_refl _) _) _) (Nat.le_refl _), 0, 0, 0, 0, 0, 0, 0, 0, by rw [T.out]; rfl, by rw [T.out]; intro x h; cases h⟩
 have hy2 : y ≤ 9999 := by
  have h1 : amt 10 0 (l.take 4) = some y := by
   unfold amount at ha; split at ha
   ·cases ha
   ·exact ha
  have h2 := amt_lt 10 (by omega) _ _ _ (by omega) h1
  have h3 : (10 : Int) ^ (l.take 4).length ≤ 10 ^ 4 := by
   have := Nat.pow_le_pow_right (show 0 < 10 by omega) (show (l.take 4).length ≤ 4 by rw [List.length_take]; omega)
   exact_mod_cast this
  omega
 have HT2 : Hid (timeOf l = timeBehind y (l.drop 5)) := Lib.hid (by rw [HT.out, ha])
 clear HT ha hy1
 go_upto_region 8 with (refine store25 rfl _ _ rfl _ _ rfl rfl (by rfl) (by rfl) 25 _ (heap_alloc_new _ _) (by rfl) ?_; rw [World.setRow_alloc_new])
 generalize hW : (World.alloc (World.alloc _ _) (.cells _ 25)) = W at *
 have S0 : St w W w.heap.size (w.heap.size + 1) (w.heap.size + 1 + 1) (l.drop 5) false (tCells y 0 0 0 0 0 0 0) := by
  rw [← hW]
  refine ⟨((below_drewN ((Below.refl _ _).alloc (Nat.le_refl _) _) _).alloc (by simp) _).alloc (by simp; omega) _, Nat.le_refl _, by omega, by omega, ?_, ⟨_, hdr, ?_⟩, ?_⟩
  ·exact (h_alloc3 _ _ _ _ _).1
  ·exact (h_alloc3 _ _ _ _ _).2.1
  ·exact (h_alloc3 _ _ _ _ _).2.2
 clear hW hdr hl hs hz hzi hc4 htk
 have L0 : (l.drop 5).length ≤ 1000 := by rw [List.length_drop]; omega
 generalize l.drop 5 = l0 at *
 have q1 := num2_bd l0
 generalize hq1 : clkNum 1 12 l0 false = Q1 at *
 obtain ⟨v1, l1, bad1⟩ := Q1
 have K1 := clkNumber_any (w.heap.size + 1) l0 false 1 12 _ S0.h1 L0
 have L1 := clkNum_len hq1 L0
 have V1 : 0 ≤ v1 ∧ v1 ≤ 99 := by have := congrArg Prod.fst hq1; simp only [clkNum] at this; omega
 have H1 := Lib.hid hq1
 rw [hq1] at K1
 clear hq1 q1
 go_wp2_with fail
 refine K1.mono ?_
 clear K1
 rintro e W1a ⟨rfl, hk, hgr⟩
 have S1a := S0.step hk hgr
 clear S0 hk hgr
 obtain ⟨hc, hf⟩ := S1a.cell 1
 try simp only [tCells] at hc
 go_upto_region 9 with fail
 clear hc hf
 have S1 := S1a.set 1 (.int .i64 v1)
 clear S1a
 simp only [tCells, List.setIfInBounds_toArray, List.set_cons_succ, List.set_cons_zero] at S1
 generalize (W1a.setCell _ _) = W1 at *
 go_wp2_with fail
 generalize hq2 : clkSign 45 l1 bad1 = Q2 at *
 obtain ⟨l2, bad2⟩ := Q2
 have K2 := clkSign_any (w.heap.size + 1) l1 bad1 45 45 rfl _ S1.h1 L1
 have L2 := clkSign_len hq2 L1
 have H2 := Lib.hid hq2
 rw [hq2] at K2
 clear hq2
 refine K2.mono ?_
 clear K2
 rintro e W2 ⟨rfl, hk, hgr⟩
 have S2 := S1.step hk hgr
 clear S1 hk hgr
 obtain ⟨hc0, hf0⟩ := S2.cell 0
 obtain ⟨hc1, hf1⟩ := S2.cell 1
 simp only [List.getElem?_toArray, List.getElem?_cons_zero, List.getElem?_cons_succ] at hc0 hc1
 go_wp2_with fail
 refine (ylDays_any y v1 _ hy0 hy2 V1.1 V1.2).mono ?_
 rintro e w' ⟨rfl, rfl⟩
 clear hc0 hf0 hc1 hf1
 generalize hdy : daysOf y v1 = dy at *
 have HDY := Lib.hid hdy
 clear hdy
 have q3 := num2_bd l2
 generalize hq3 : clkNum 1 dy l2 bad2 = Q3 at *
 obtain ⟨v3, l3, bad3⟩ := Q3
 have K3 := clkNumber_any (w.heap.size + 1) l2 bad2 1 dy _ S2.h1 L2
 have L3 := clkNum_len hq3 L2
 have V3 : 0 ≤ v3 ∧ v3 ≤ 99 := by have := congrArg Prod.fst hq3; simp only [clkNum] at this; omega
 have H3 := Lib.hid hq3
 rw [hq3] at K3
 clear hq3 q3
 go_wp2_with fail
 refine K3.mono ?_
 clear K3
 rintro e W3a ⟨rfl, hk, hgr⟩
 have S3a := S2.step hk hgr
 clear S2 hk hgr
 obtain ⟨hc, hf⟩ := S3a.cell 2
 try simp only [tCells] at hc
 go_upto_region 11 with fail
 clear hc hf
 have S3 := S3a.set 2 (.int .i64 v3)
 clear S3a
 simp only [tCells, List.setIfInBounds_toArray, List.set_cons_succ, List.set_cons_zero] at S3
 generalize (W3a.setCell _ _) = W3 at *
 have HT3 : Hid (timeOf l = if bad3 then none else timeRest y v1 v3 l3) := Lib.hid (by
  rw [HT2.out]; unfold timeBehind; simp only [H1.out, H2.out, HDY.out, H3.out])
 clear HT2 H1 H2 HDY H3
 obtain ⟨r3, hr3, hc0, hc1, hf0, hg1⟩ := S3.clk
 cases bad3
 rotate_left
 ·have T : Hid (timeOf l = none) := Lib.hid (by rw [HT3.out]; rfl)
  obtain ⟨hd0, _⟩ := S3.cell 0
  obtain ⟨hd1, _⟩ := S3.cell 1
  obtain ⟨hd2, _⟩ := S3.cell 2
  obtain ⟨hd3, _⟩ := S3.cell 3
  obtain ⟨hd4, _⟩ := S3.cell 4
  obtain ⟨hd5, _⟩ := S3.cell 5
  obtain ⟨hd6, _⟩ := S3.cell 6
  obtain ⟨hd7, _⟩ := S3.cell 7
  simp only [List.getElem?_toArray, List.getElem?_cons_zero, List.getElem?_cons_succ] at hd0 hd1 hd2 hd3 hd4 hd5 hd6 hd7
  have hz0 := cell_of_row _ _ 0 _ _ _ S3.h0
  have hy0 := frozen_of_row _ _ 0 _ _ S3.h0
  have hz1 := cell_of_row _ _ 1 _ _ _ S3.h0
  have hy1 := frozen_of_row _ _ 1 _ _ S3.h0
  have hz2 := cell_of_row _ _ 2 _ _ _ S3.h0
  have hy2 := frozen_of_row _ _ 2 _ _ S3.h0
  have hz3 := cell_of_row _ _ 3 _ _ _ S3.h0
  have hy3 := frozen_of_row _ _ 3 _ _ S3.h0
  have hz4 := cell_of_row _ _ 4 _ _ _ S3.h0
  have hy4 := frozen_of_row _ _ 4 _ _ S3.h0
  have hz5 := cell_of_row _ _ 5 _ _ _ S3.h0
  have hy5 := frozen_of_row _ _ 5 _ _ S3.h0
  have hz6 := cell_of_row _ _ 6 _ _ _ S3.h0
  have hy6 := frozen_of_row _ _ 6 _ _ S3.h0
  have hz7 := cell_of_row _ _ 7 _ _ _ S3.h0
  have hy7 := frozen_of_row _ _ 7 _ _ S3.h0
  simp only [tCells, List.getElem?_toArray, List.getElem?_cons_zero, List.getElem?_cons_succ] at hz0 hz1 hz2 hz3 hz4 hz5 hz6 hz7
  go_upto_region 12 with fail
  go_region
  go_wp2
  exact bodyPost_ret (v := .tuple #[.agg (tCells y v1 v3 0 0 0 0 0), .bool false]) (results_25 Tryz.results27 _ _ _ _ _ _ rfl (S3.fin y v1 v3 0 0 0 0 0).1 rfl) rfl ⟨(S3.fin y v1 v3 0 0 0 0 0).2, y, v1, v3, 0, 0, 0, 0, 0, by rw [T.out]; rfl, by rw [T.out]; intro x h; cases h⟩
 rcases l3 with _ | ⟨c, rt⟩
 ·have T : Hid (timeOf l = some [y, v1, v3, 0, 0, 0, 0, 0]) := Lib.hid (by rw [HT3.out]; rfl)
  have he : r3.toList.isEmpty = true := by rw [Lib.toList_data, hr3]; rfl
  have he2 : (!r3.toList.isEmpty) = false := by rw [he]; rfl
  obtain ⟨hd0, _⟩ := S3.cell 0
  obtain ⟨hd1, _⟩ := S3.cell 1
  obtain ⟨hd2, _⟩ := S3.cell 2
  obtain ⟨hd3, _⟩ := S3.cell 3
  obtain ⟨hd4, _⟩ := S3.cell 4
  obtain ⟨hd5, _⟩ := S3.cell 5
  obtain ⟨hd6, _⟩ := S3.cell 6
  obtain ⟨hd7, _⟩ := S3.cell 7
  simp only [List.getElem?_toArray, List.getElem?_cons_zero, List.getElem?_cons_succ] at hd0 hd1 hd2 hd3 hd4 hd5 hd6 hd7
  have hz0 := cell_of_row _ _ 0 _ _ _ S3.h0
  have hy0 := frozen_of_row _ _ 0 _ _ S3.h0
  have hz1 := cell_of_row _ _ 1 _ _ _ S3.h0
  have hy1 := frozen_of_row _ _ 1 _ _ S3.h0
  have hz2 := cell_of_row _ _ 2 _ _ _ S3.h0
  have hy2 := frozen_of_row _ _ 2 _ _ S3.h0
  have hz3 := cell_of_row _ _ 3 _ _ _ S3.h0
  have hy3 := frozen_of_row _ _ 3 _ _ S3.h0
  have hz4 := cell_of_row _ _ 4 _ _ _ S3.h0
  have hy4 := frozen_of_row _ _ 4 _ _ S3.h0
  have hz5 := cell_of_row _ _ 5 _ _ _ S3.h0
  have hy5 := frozen_of_row _ _ 5 _ _ S3.h0
  have hz6 := cell_of_row _ _ 6 _ _ _ S3.h0
  have hy6 := frozen_of_row _ _ 6 _ _ S3.h0
  have hz7 := cell_of_row _ _ 7 _ _ _ S3.h0
  have hy7 := frozen_of_row _ _ 7 _ _ S3.h0
  simp only [tCells, List.getElem?_toArray, List.getElem?_cons_zero, List.getElem?_cons_succ] at hz0 hz1 hz2 hz3 hz4 hz5 hz6 hz7
  go_upto_region 12 with fail
  go_region
  go_wp2
  exact bodyPost_ret (v := .tuple #[.agg (tCells y v1 v3 0 0 0 0 0), .bool true]) (results_25 Tryz.results27 _ _ _ _ _ _ rfl (S3.fin y v1 v3 0 0 0 0 0).1 rfl) rfl ⟨(S3.fin y v1 v3 0 0 0 0 0).2, y, v1, v3, 0, 0, 0, 0, 0, by rw [T.out]; rfl, by rw [T.out]; intro x h; exact (Option.some.inj h).symm⟩
 have he : r3.toList.isEmpty = false := by rw [Lib.toList_data, hr3]; rfl
 have he2 : (!r3.toList.isEmpty) = true := by rw [he]; rfl
 have hp : 0 < r3.size := by rw [hr3.size]; simp
 have hpi : (0 : Int) < (r3.size : Int) := by omega
 have hsz : r3.size ≤ 1000 := by rw [hr3.size]; exact L3
 have hb0 : r3[0] = c := by have := hr3.get 0 hp; simp at this; exact this.symm
 by_cases hzone : c = 84 ∨ c = 116
 ·have HT4 : Hid (timeOf l = clockOf true y v1 v3 rt false) := Lib.hid (by rw [HT3.out]; simp only [timeRest, if_pos hzone]; rfl)
  clear HT3
  have hdr := hr3.drop 1
  have L4 : rt.length ≤ 1000 := by simp at L3; omega
  go_upto_region 13 with fail
  go_cut [8] (fun v wc => v = .bool true ∧ W3 = wc)
  case first =>
   rcases hzone with h | h
   ·have f1 : ((r3[0].toNat : Int) == 84) = true := byte_eq (c := r3[0]) (d := 84) (by rw [hb0, h])
    go_wp2
    go_meet
    case rel => exact ⟨rfl, rfl⟩
   ·have f1 : ((r3[0].toNat : Int) == 84) = false := byte_ne (c := r3[0]) (d := 84) (by rw [hb0, h]; decide)
    have f2 : ((r3[0].toNat : Int) == 116) = true := byte_eq (c := r3[0]) (d := 116) (by rw [hb0, h])
    go_wp2
    go_meet
    case rel => exact ⟨rfl, rfl⟩
  case rest =>
  obtain ⟨rfl, rfl⟩ := hcut
  clear hzone
  go_upto_region 17 with fail
  have S4 := S3.chop hdr hg1
  clear S3 hg1 hdr
  generalize (W3.setCell _ _) = W4 at *
  have q5 := num2_bd rt
  generalize hq5 : clkNum 0 23 rt false = Q5 at *
  obtain ⟨v5, l5, bad5⟩ := Q5
  have K5 := clkNumber_any (w.heap.size + 1) rt false 0 23 _ S4.h1 L4
  have L5 := clkNum_len hq5 L4
  have V5 : 0 ≤ v5 ∧ v5 ≤ 99 := by have := congrArg Prod.fst hq5; simp only [clkNum] at this; omega
  have H5 := Lib.hid hq5
  rw [hq5] at K5
  clear hq5 q5
  go_wp2_with fail
  refine K5.mono ?_
  clear K5
  rintro e W5a ⟨rfl, hk, hgr⟩
  have S5a := S4.step hk hgr
  clear S4 hk hgr
  obtain ⟨hc, hf⟩ := S5a.cell 3
  try simp only [tCells] at hc
  go_upto_region 18 with fail
  clear hc hf
  have S5 := S5a.set 3 (.int .i64 v5)
  clear S5a
  simp only [tCells, List.setIfInBounds_toArray, List.set_cons_succ, List.set_cons_zero] at S5
  generalize (W5a.setCell _ _) = W5 at *
  go_wp2_with fail
  generalize hq6 : clkSign 58 l5 bad5 = Q6 at *
  obtain ⟨l6, bad6⟩ := Q6
  have K6 := clkSign_any (w.heap.size + 1) l5 bad5 58 58 rfl _ S5.h1 L5
  have L6 := clkSign_len hq6 L5
  have H6 := Lib.hid hq6
  rw [hq6] at K6
  clear hq6
  refine K6.mono ?_
  clear K6
  rintro e W6 ⟨rfl, hk, hgr⟩
  have S6 := S5.step hk hgr
  clear S5 hk hgr
  have q7 := num2_bd l6
  generalize hq7 : clkNum 0 59 l6 bad6 = Q7 at *
  obtain ⟨v7, l7, bad7⟩ := Q7
  have K7 := clkNumber_any (w.heap.size + 1) l6 bad6 0 59 _ S6.h1 L6
  have L7 := clkNum_len hq7 L6
  have V7 : 0 ≤ v7 ∧ v7 ≤ 99 := by have := congrArg Prod.fst hq7; simp only [clkNum] at this; omega
  have H7 := Lib.hid hq7
  rw [hq7] at K7
  clear hq7 q7
  go_wp2_with fail
  refine K7.mono ?_
  clear K7
  rintro e W7a ⟨rfl, hk, hgr⟩
  have S7a := S6.step hk hgr
  clear S6 hk hgr
  obtain ⟨hc, hf⟩ := S7a.cell 4
  try simp only [tCells] at hc
  go_upto_region 20 with fail
  clear hc hf
  have S7 := S7a.set 4 (.int .i64 v7)
  clear S7a
  simp only [tCells, List.setIfInBounds_toArray, List.set_cons_succ, List.set_cons_zero] at S7
  generalize (W7a.setCell _ _) = W7 at *
  go_wp2_with fail
  generalize hq8 : clkSign 58 l7 bad7 = Q8 at *
  obtain ⟨l8, bad8⟩ := Q8
  have K8 := clkSign_any (w.heap.size + 1) l7 bad7 58 58 rfl _ S7.h1 L7
  have L8 := clkSign_len hq8 L7
  have H8 := Lib.hid hq8
  rw [hq8] at K8
  clear hq8
  refine K8.mono ?_
  clear K8
  rintro e W8 ⟨rfl, hk, hgr⟩
  have S8 := S7.step hk hgr
  clear S7 hk hgr
  have q9 := num2_bd l8
  generalize hq9 : clkNum 0 59 l8 bad8 = Q9 at *
  obtain ⟨v9, l9, bad9⟩ := Q9
  have K9 := clkNumber_any (w.heap.size + 1) l8 bad8 0 59 _ S8.h1 L8
  have L9 := clkNum_len hq9 L8
  have V9 : 0 ≤ v9 ∧ v9 ≤ 99 := by have := congrArg Prod.fst hq9; simp only [clkNum] at this; omega
  have H9 := Lib.hid hq9
  rw [hq9] at K9
  clear hq9 q9
  go_wp2_with fail
  refine K9.mono ?_
  clear K9
  rintro e W9a ⟨rfl, hk, hgr⟩
  have S9a := S8.step hk hgr
  clear S8 hk hgr
  obtain ⟨hc, hf⟩ := S9a.cell 5
  try simp only [tCells] at hc
  go_upto_region 22 with fail
  clear hc hf
  have S9 := S9a.set 5 (.int .i64 v9)
  clear S9a
  simp only [tCells, List.setIfInBounds_toArray, List.set_cons_succ, List.set_cons_zero] at S9
  generalize (W9a.setCell _ _) = W9 at *
  go_wp2_with fail
  have K10 := clkNano_any (w.heap.size + 1) l9 bad9 _ S9.h1 L9
  have L10 := clkNano_len L9
  generalize hna : clkNano l9 = Q10 at *
  obtain ⟨v10, l10⟩ := Q10
  have H10 := Lib.hid hna
  clear hna
  refine K10.mono ?_
  clear K10
  rintro e W10a ⟨rfl, hk, hgr⟩
  have S10a := S9.step hk hgr
  clear S9 hk hgr
  obtain ⟨hc, hf⟩ := S10a.cell 6
  try simp only [tCells] at hc
  go_upto_region 23 with fail
  clear hc hf
  have S10 := S10a.set 6 (.int .i64 v10)
  clear S10a
  simp only [tCells, List.setIfInBounds_toArray, List.set_cons_succ, List.set_cons_zero] at S10
  generalize (W10a.setCell _ _) = W10 at *
  have HT5 : Hid (timeOf l = if bad9 = true then none else (zoneOf l10).map fun z => [y, v1, v3, v5, v7, v9, v10, z]) := Lib.hid (by
   rw [HT4.out]; unfold clockOf; simp only [H5.out, H6.out, H7.out, H8.out, H9.out, H10.out]; rfl)
  clear HT4 H5 H6 H7 H8 H9 H10
  go_wp2_with fail
  refine (clkZone_any (w.heap.size + 1) l10 bad9 _ S10.h1 L10).mono ?_
  rintro e W11a (⟨z, hzo, rfl, hk, hgr⟩ | ⟨hzo, z, l11, rfl, hk, hgr⟩)
  ·have S11a := S10.step hk hgr
   clear S10 hk hgr
   obtain ⟨hc, hf⟩ := S11a.cell 7
   try simp only [tCells] at hc
   go_upto_region 25 with fail
   clear hc hf
   have S11 := S11a.set 7 (.int .i64 z)
   clear S11a
   simp only [tCells, List.setIfInBounds_toArray, List.set_cons_succ, List.set_cons_zero] at S11
   generalize (W11a.setCell _ _) = W11 at *
   obtain ⟨r9, hr9, hc0, hc1, hf0, hg1⟩ := S11.clk
   have he : r9.toList.isEmpty = true := by rw [Lib.toList_data, hr9]; rfl
   have he2 : (!r9.toList.isEmpty) = false := by rw [he]; rfl
   cases bad9
   ·have T : Hid (timeOf l = some [y, v1, v3, v5, v7, v9, v10, z]) := Lib.hid (by rw [HT5.out, hzo]; rfl)
    clear hzo
    obtain ⟨hd0, _⟩ := S11.cell 0
    obtain ⟨hd1, _⟩ := S11.cell 1
    obtain ⟨hd2, _⟩ := S11.cell 2
    obtain ⟨hd3, _⟩ := S11.cell 3
    obtain ⟨hd4, _⟩ := S11.cell 4
    obtain ⟨hd5, _⟩ := S11.cell 5
    obtain ⟨hd6, _⟩ := S11.cell 6
    obtain ⟨hd7, _⟩ := S11.cell 7
    simp only [List.getElem?_toArray, List.getElem?_cons_zero, List.getElem?_cons_succ] at hd0 hd1 hd2 hd3 hd4 hd5 hd6 hd7
    have hz0 := cell_of_row _ _ 0 _ _ _ S11.h0
    have hy0 := frozen_of_row _ _ 0 _ _ S11.h0
    have hz1 := cell_of_row _ _ 1 _ _ _ S11.h0
    have hy1 := frozen_of_row _ _ 1 _ _ S11.h0
    have hz2 := cell_of_row _ _ 2 _ _ _ S11.h0
    have hy2 := frozen_of_row _ _ 2 _ _ S11.h0
    have hz3 := cell_of_row _ _ 3 _ _ _ S11.h0
    have hy3 := frozen_of_row _ _ 3 _ _ S11.h0
    have hz4 := cell_of_row _ _ 4 _ _ _ S11.h0
    have hy4 := frozen_of_row _ _ 4 _ _ S11.h0
    have hz5 := cell_of_row _ _ 5 _ _ _ S11.h0
    have hy5 := frozen_of_row _ _ 5 _ _ S11.h0
    have hz6 := cell_of_row _ _ 6 _ _ _ S11.h0
    have hy6 := frozen_of_row _ _ 6 _ _ S11.h0
    have hz7 := cell_of_row _ _ 7 _ _ _ S11.h0
    have hy7 := frozen_of_row _ _ 7 _ _ S11.h0
    simp only [tCells, List.getElem?_toArray, List.getElem?_cons_zero, List.getElem?_cons_succ] at hz0 hz1 hz2 hz3 hz4 hz5 hz6 hz7
    go_upto_region 25 with fail
    go_region
    go_wp2
    exact bodyPost_ret (v := .tuple #[.agg (tCells y v1 v3 v5 v7 v9 v10 z), .bool true]) (results_25 Tryz.results27 _ _ _ _ _ _ rfl (S11.fin y v1 v3 v5 v7 v9 v10 z).1 rfl) rfl ⟨(S11.fin y v1 v3 v5 v7 v9 v10 z).2, y, v1, v3, v5, v7, v9, v10, z, by rw [T.out]; rfl, by rw [T.out]; intro x h; exact (Option.some.inj h).symm⟩
   ·have T : Hid (timeOf l = none) := Lib.hid (by rw [HT5.out]; rfl)
    clear hzo
    obtain ⟨hd0, _⟩ := S11.cell 0
    obtain ⟨hd1, _⟩ := S11.cell 1
    obtain ⟨hd2, _⟩ := S11.cell 2
    obtain ⟨hd3, _⟩ := S11.cell 3
    obtain ⟨hd4, _⟩ := S11.cell 4
    obtain ⟨hd5, _⟩ := S11.cell 5
    obtain ⟨hd6, _⟩ := S11.cell 6
    obtain ⟨hd7, _⟩ := S11.cell 7
    simp only [List.getElem?_toArray, List.getElem?_cons_zero, List.getElem?_cons_succ] at hd0 hd1 hd2 hd3 hd4 hd5 hd6 hd7
    have hz0 := cell_of_row _ _ 0 _ _ _ S11.h0
    have hy0 := frozen_of_row _ _ 0 _ _ S11.h0
    have hz1 := cell_of_row _ _ 1 _ _ _ S11.h0
    have hy1 := frozen_of_row _ _ 1 _ _ S11.h0
    have hz2 := cell_of_row _ _ 2 _ _ _ S11.h0
    have hy2 := frozen_of_row _ _ 2 _ _ S11.h0
    have hz3 := cell_of_row _ _ 3 _ _ _ S11.h0
    have hy3 := frozen_of_row _ _ 3 _ _ S11.h0
    have hz4 := cell_of_row _ _ 4 _ _ _ S11.h0
    have hy4 := frozen_of_row _ _ 4 _ _ S11.h0
    have hz5 := cell_of_row _ _ 5 _ _ _ S11.h0
    have hy5 := frozen_of_row _ _ 5 _ _ S11.h0
    have hz6 := cell_of_row _ _ 6 _ _ _ S11.h0
    have hy6 := frozen_of_row _ _ 6 _ _ S11.h0
    have hz7 := cell_of_row _ _ 7 _ _ _ S11.h0
    have hy7 := frozen_of_row _ _ 7 _ _ S11.h0
    simp only [tCells, List.getElem?_toArray, List.getElem?_cons_zero, List.getElem?_cons_succ] at hz0 hz1 hz2 hz3 hz4 hz5 hz6 hz7
    go_upto_region 25 with fail
    go_region
    go_wp2
    exact bodyPost_ret (v := .tuple #[.agg (tCells y v1 v3 v5 v7 v9 v10 z), .bool false]) (results_25 Tryz.results27 _ _ _ _ _ _ rfl (S11.fin y v1 v3 v5 v7 v9 v10 z).1 rfl) rfl ⟨(S11.fin y v1 v3 v5 v7 v9 v10 z).2, y, v1, v3, v5, v7, v9, v10, z, by rw [T.out]; rfl, by rw [T.out]; intro x h; cases h⟩
  ·have S11a := S10.step hk hgr
   clear S10 hk hgr
   obtain ⟨hc, hf⟩ := S11a.cell 7
   try simp only [tCells] at hc
   go_upto_region 25 with fail
   clear hc hf
   have S11 := S11a.set 7 (.int .i64 z)
   clear S11a
   simp only [tCells, List.setIfInBounds_toArray, List.set_cons_succ, List.set_cons_zero] at S11
   generalize (W11a.setCell _ _) = W11 at *
   obtain ⟨r9, hr9, hc0, hc1, hf0, hg1⟩ := S11.clk
   have T : Hid (timeOf l = none) := Lib.hid (by rw [HT5.out, hzo]; cases bad9 <;> rfl)
   clear hzo
   obtain ⟨hd0, _⟩ := S11.cell 0
   obtain ⟨hd1, _⟩ := S11.cell 1
   obtain ⟨hd2, _⟩ := S11.cell 2
   obtain ⟨hd3, _⟩ := S11.cell 3
   obtain ⟨hd4, _⟩ := S11.cell 4
   obtain ⟨hd5, _⟩ := S11.cell 5
   obtain ⟨hd6, _⟩ := S11.cell 6
   obtain ⟨hd7, _⟩ := S11.cell 7
   simp only [List.getElem?_toArray, List.getElem?_cons_zero, List.getElem?_cons_succ] at hd0 hd1 hd2 hd3 hd4 hd5 hd6 hd7
   have hz0 := cell_of_row _ _ 0 _ _ _ S11.h0
   have hy0 := frozen_of_row _ _ 0 _ _ S11.h0
   have hz1 := cell_of_row _ _ 1 _ _ _ S11.h0
   have hy1 := frozen_of_row _ _ 1 _ _ S11.h0
   have hz2 := cell_of_row _ _ 2 _ _ _ S11.h0
   have hy2 := frozen_of_row _ _ 2 _ _ S11.h0
   have hz3 := cell_of_row _ _ 3 _ _ _ S11.h0
   have hy3 := frozen_of_row _ _ 3 _ _ S11.h0
   have hz4 := cell_of_row _ _ 4 _ _ _ S11.h0
   have hy4 := frozen_of_row _ _ 4 _ _ S11.h0
   have hz5 := cell_of_row _ _ 5 _ _ _ S11.h0
   have hy5 := frozen_of_row _ _ 5 _ _ S11.h0
   have hz6 := cell_of_row _ _ 6 _ _ _ S11.h0
   have hy6 := frozen_of_row _ _ 6 _ _ S11.h0
   have hz7 := cell_of_row _ _ 7 _ _ _ S11.h0
   have hy7 := frozen_of_row _ _ 7 _ _ S11.h0
   simp only [tCells, List.getElem?_toArray, List.getElem?_cons_zero, List.getElem?_cons_succ] at hz0 hz1 hz2 hz3 hz4 hz5 hz6 hz7
   go_upto_region 25 with fail
   go_region
   go_wp2
   exact bodyPost_ret (v := .tuple #[.agg (tCells y v1 v3 v5 v7 v9 v10 z), .bool false]) (results_25 Tryz.results27 _ _ _ _ _ _ rfl (S11.fin y v1 v3 v5 v7 v9 v10 z).1 rfl) rfl ⟨(S11.fin y v1 v3 v5 v7 v9 v10 z).2, y, v1, v3, v5, v7, v9, v10, z, by rw [T.out]; rfl, by rw [T.out]; intro x h; cases h⟩
 ·have hz1 : c ≠ 84 := fun h => hzone (.inl h)
  have hz2 : c ≠ 116 := fun h => hzone (.inr h)
  have f1 : ((r3[0].toNat : Int) == 84) = false := byte_ne (c := r3[0]) (d := 84) (by rw [hb0]; exact hz1)
  have f2 : ((r3[0].toNat : Int) == 116) = false := byte_ne (c := r3[0]) (d := 116) (by rw [hb0]; exact hz2)
  have HT3b : Hid (timeOf l = clockOf false y v1 v3 (clkBlanks (c :: rt) false).1 (clkBlanks (c :: rt) false).2) := Lib.hid (by rw [HT3.out]; simp only [timeRest, if_neg hzone]; rfl)
  clear HT3 hzone hz1 hz2 hb0
  go_upto_region 13 with fail
  go_cut [8] (fun v wc => v = .bool false ∧ W3 = wc)
  case first =>
   go_wp2
   go_meet
   case rel => exact ⟨rfl, rfl⟩
  case rest =>
  obtain ⟨rfl, rfl⟩ := hcut
  go_wp2_with fail
  have K4 := clkBlanks_any (w.heap.size + 1) (c :: rt) false _ S3.h1 L3
  have L4 := clkBlanks_len (bad := false) L3
  generalize hq4 : clkBlanks (c :: rt) false = Q4 at *
  obtain ⟨l4, bad4⟩ := Q4
  clear hq4
  refine K4.mono ?_
  clear K4
  rintro e W4 ⟨rfl, hk, hgr⟩
  have S4 := S3.step hk hgr
  clear S3 hk hgr hg1 hc0 hc1 hf0
  have HT4 : Hid (timeOf l = clockOf false y v1 v3 l4 bad4) := Lib.hid (by rw [HT3b.out])
  clear HT3b
  have q5 := num2_bd l4
  generalize hq5 : clkNum 0 23 l4 bad4 = Q5 at *
  obtain ⟨v5, l5, bad5⟩ := Q5
  have K5 := clkNumber_any (w.heap.size + 1) l4 bad4 0 23 _ S4.h1 L4
  have L5 := clkNum_len hq5 L4
  have V5 : 0 ≤ v5 ∧ v5 ≤ 99 := by have := congrArg Prod.fst hq5; simp only [clkNum] at this; omega
  have H5 := Lib.hid hq5
  rw [hq5] at K5
  clear hq5 q5
  go_wp2_with fail
  refine K5.mono ?_
  clear K5
  rintro e W5a ⟨rfl, hk, hgr⟩
  have S5a := S4.step hk hgr
  clear S4 hk hgr
  obtain ⟨hc, hf⟩ := S5a.cell 3
  try simp only [tCells] at hc
  go_upto_region 18 with fail
  clear hc hf
  have S5 := S5a.set 3 (.int .i64 v5)
  clear S5a
  simp only [tCells, List.setIfInBounds_toArray, List.set_cons_succ, List.set_cons_zero] at S5
  generalize (W5a.setCell _ _) = W5 at *
  go_wp2_with fail
  generalize hq6 : clkSign 58 l5 bad5 = Q6 at *
  obtain ⟨l6, bad6⟩ := Q6
  have K6 := clkSign_any (w.heap.size + 1) l5 bad5 58 58 rfl _ S5.h1 L5
  have L6 := clkSign_len hq6 L5
  have H6 := Lib.hid hq6
  rw [hq6] at K6
  clear hq6
  refine K6.mono ?_
  clear K6
  rintro e W6 ⟨rfl, hk, hgr⟩
  have S6 := S5.step hk hgr
  clear S5 hk hgr
  have q7 := num2_bd l6
  generalize hq7 : clkNum 0 59 l6 bad6 = Q7 at *
  obtain ⟨v7, l7, bad7⟩ := Q7
  have K7 := clkNumber_any (w.heap.size + 1) l6 bad6 0 59 _ S6.h1 L6
  have L7 := clkNum_len hq7 L6
  have V7 : 0 ≤ v7 ∧ v7 ≤ 99 := by have := congrArg Prod.fst hq7; simp only [clkNum] at this; omega
  have H7 := Lib.hid hq7
  rw [hq7] at K7
  clear hq7 q7
  go_wp2_with fail
  refine K7.mono ?_
  clear K7
  rintro e W7a ⟨rfl, hk, hgr⟩
  have S7a := S6.step hk hgr
  clear S6 hk hgr
  obtain ⟨hc, hf⟩ := S7a.cell 4
  try simp only [tCells] at hc
  go_upto_region 20 with fail
  clear hc hf
  have S7 := S7a.set 4 (.int .i64 v7)
  clear S7a
  simp only [tCells, List.setIfInBounds_toArray, List.set_cons_succ, List.set_cons_zero] at S7
  generalize (W7a.setCell _ _) = W7 at *
  go_wp2_with fail
  generalize hq8 : clkSign 58 l7 bad7 = Q8 at *
  obtain ⟨l8, bad8⟩ := Q8
  have K8 := clkSign_any (w.heap.size + 1) l7 bad7 58 58 rfl _ S7.h1 L7
  have L8 := clkSign_len hq8 L7
  have H8 := Lib.hid hq8
  rw [hq8] at K8
  clear hq8
  refine K8.mono ?_
  clear K8
  rintro e W8 ⟨rfl, hk, hgr⟩
  have S8 := S7.step hk hgr
  clear S7 hk hgr
  have q9 := num2_bd l8
  generalize hq9 : clkNum 0 59 l8 bad8 = Q9 at *
  obtain ⟨v9, l9, bad9⟩ := Q9
  have K9 := clkNumber_any (w.heap.size + 1) l8 bad8 0 59 _ S8.h1 L8
  have L9 := clkNum_len hq9 L8
  have V9 : 0 ≤ v9 ∧ v9 ≤ 99 := by have := congrArg Prod.fst hq9; simp only [clkNum] at this; omega
  have H9 := Lib.hid hq9
  rw [hq9] at K9
  clear hq9 q9
  go_wp2_with fail
  refine K9.mono ?_
  clear K9
  rintro e W9a ⟨rfl, hk, hgr⟩
  have S9a := S8.step hk hgr
  clear S8 hk hgr
  obtain ⟨hc, hf⟩ := S9a.cell 5
  try simp only [tCells] at hc
  go_upto_region 22 with fail
  clear hc hf
  have S9 := S9a.set 5 (.int .i64 v9)
  clear S9a
  simp only [tCells, List.setIfInBounds_toArray, List.set_cons_succ, List.set_cons_zero] at S9
  generalize (W9a.setCell _ _) = W9 at *
  go_wp2_with fail
  have K10 := clkNano_any (w.heap.size + 1) l9 bad9 _ S9.h1 L9
  have L10 := clkNano_len L9
  generalize hna : clkNano l9 = Q10 at *
  obtain ⟨v10, l10⟩ := Q10
  have H10 := Lib.hid hna
  clear hna
  refine K10.mono ?_
  clear K10
  rintro e W10a ⟨rfl, hk, hgr⟩
  have S10a := S9.step hk hgr
  clear S9 hk hgr
  obtain ⟨hc, hf⟩ := S10a.cell 6
  try simp only [tCells] at hc
  go_upto_region 23 with fail
  clear hc hf
  have S10 := S10a.set 6 (.int .i64 v10)
  clear S10a
  simp only [tCells, List.setIfInBounds_toArray, List.set_cons_succ, List.set_cons_zero] at S10
  generalize (W10a.setCell _ _) = W10 at *
  have HT5 : Hid (timeOf l = if bad9 = true then none else if l10 = [] then some [y, v1, v3, v5, v7, v9, v10, 0] else none) := Lib.hid (by
   rw [HT4.out]; unfold clockOf; simp only [H5.out, H6.out, H7.out, H8.out, H9.out, H10.out]; rfl)
  clear HT4 H5 H6 H7 H8 H9 H10
  obtain ⟨r9, hr9, hc0, hc1, hf0, hg1⟩ := S10.clk
  cases bad9
  ·rcases l10 with _ | ⟨c9, rt9⟩
   ·have T : Hid (timeOf l = some [y, v1, v3, v5, v7, v9, v10, 0]) := Lib.hid (by rw [HT5.out]; rfl)
    have he : r9.toList.isEmpty = true := by rw [Lib.toList_data, hr9]; rfl
    have he2 : (!r9.toList.isEmpty) = false := by rw [he]; rfl
    obtain ⟨hd0, _⟩ := S10.cell 0
    obtain ⟨hd1, _⟩ := S10.cell 1
    obtain ⟨hd2, _⟩ := S10.cell 2
    obtain ⟨hd3, _⟩ := S10.cell 3
    obtain ⟨hd4, _⟩ := S10.cell 4
    obtain ⟨hd5, _⟩ := S10.cell 5
    obtain ⟨hd6, _⟩ := S10.cell 6
    obtain ⟨hd7, _⟩ := S10.cell 7
    simp only [List.getElem?_toArray, List.getElem?_cons_zero, List.getElem?_cons_succ] at hd0 hd1 hd2 hd3 hd4 hd5 hd6 hd7
    have hz0 := cell_of_row _ _ 0 _ _ _ S10.h0
    have hy0 := frozen_of_row _ _ 0 _ _ S10.h0
    have hz1 := cell_of_row _ _ 1 _ _ _ S10.h0
    have hy1 := frozen_of_row _ _ 1 _ _ S10.h0
    have hz2 := cell_of_row _ _ 2 _ _ _ S10.h0
    have hy2 := frozen_of_row _ _ 2 _ _ S10.h0
    have hz3 := cell_of_row _ _ 3 _ _ _ S10.h0
    have hy3 := frozen_of_row _ _ 3 _ _ S10.h0
    have hz4 := cell_of_row _ _ 4 _ _ _ S10.h0
    have hy4 := frozen_of_row _ _ 4 _ _ S10.h0
    have hz5 := cell_of_row _ _ 5 _ _ _ S10.h0
    have hy5 := frozen_of_row _ _ 5 _ _ S10.h0
    have hz6 := cell_of_row _ _ 6 _ _ _ S10.h0
    have hy6 := frozen_of_row _ _ 6 _ _ S10.h0
    have hz7 := cell_of_row _ _ 7 _ _ _ S10.h0
    have hy7 := frozen_of_row _ _ 7 _ _ S10.h0
    simp only [tCells, List.getElem?_toArray, List.getElem?_cons_zero, List.getElem?_cons_succ] at hz0 hz1 hz2 hz3 hz4 hz5 hz6 hz7
    go_upto_region 25 with fail
    go_region
    go_wp2
    exact bodyPost_ret (v := .tuple #[.agg (tCells y v1 v3 v5 v7 v9 v10 0), .bool true]) (results_25 Tryz.results27 _ _ _ _ _ _ rfl (S10.fin y v1 v3 v5 v7 v9 v10 0).1 rfl) rfl ⟨(S10.fin y v1 v3 v5 v7 v9 v10 0).2, y, v1, v3, v5, v7, v9, v10, 0, by rw [T.out]; rfl, by rw [T.out]; intro x h; exact (Option.some.inj h).symm⟩
   ·have T : Hid (timeOf l = none) := Lib.hid (by rw [HT5.out]; rfl)
    have he : r9.toList.isEmpty = false := by rw [Lib.toList_data, hr9]; rfl
    have he2 : (!r9.toList.isEmpty) = true := by rw [he]; rfl
    obtain ⟨hd0, _⟩ := S10.cell 0
    obtain ⟨hd1, _⟩ := S10.cell 1
    obtain ⟨hd2, _⟩ := S10.cell 2
    obtain ⟨hd3, _⟩ := S10.cell 3
    obtain ⟨hd4, _⟩ := S10.cell 4
    obtain ⟨hd5, _⟩ := S10.cell 5
    obtain ⟨hd6, _⟩ := S10.cell 6
    obtain ⟨hd7, _⟩ := S10.cell 7
    simp only [List.getElem?_toArray, List.getElem?_cons_zero, List.getElem?_cons_succ] at hd0 hd1 hd2 hd3 hd4 hd5 hd6 hd7
    have hz0 := cell_of_row _ _ 0 _ _ _ S10.h0
    have hy0 := frozen_of_row _ _ 0 _ _ S10.h0
    have hz1 := cell_of_row _ _ 1 _ _ _ S10.h0
    have hy1 := frozen_of_row _ _ 1 _ _ S10.h0
    have hz2 := cell_of_row _ _ 2 _ _ _ S10.h0
    have hy2 := frozen_of_row _ _ 2 _ _ S10.h0
    have hz3 := cell_of_row _ _ 3 _ _ _ S10.h0
    have hy3 := frozen_of_row _ _ 3 _ _ S10.h0
    have hz4 := cell_of_row _ _ 4 _ _ _ S10.h0
    have hy4 := frozen_of_row _ _ 4 _ _ S10.h0
    have hz5 := cell_of_row _ _ 5 _ _ _ S10.h0
    have hy5 := frozen_of_row _ _ 5 _ _ S10.h0
    have hz6 := cell_of_row _ _ 6 _ _ _ S10.h0
    have hy6 := frozen_of_row _ _ 6 _ _ S10.h0
    have hz7 := cell_of_row _ _ 7 _ _ _ S10.h0
    have hy7 := frozen_of_row _ _ 7 _ _ S10.h0
    simp only [tCells, List.getElem?_toArray, List.getElem?_cons_zero, List.getElem?_cons_succ] at hz0 hz1 hz2 hz3 hz4 hz5 hz6 hz7
    go_upto_region 25 with fail
    go_region
    go_wp2
    exact bodyPost_ret (v := .tuple #[.agg (tCells y v1 v3 v5 v7 v9 v10 0), .bool false]) (results_25 Tryz.results27 _ _ _ _ _ _ rfl (S10.fin y v1 v3 v5 v7 v9 v10 0).1 rfl) rfl ⟨(S10.fin y v1 v3 v5 v7 v9 v10 0).2, y, v1, v3, v5, v7, v9, v10, 0, by rw [T.out]; rfl, by rw [T.out]; intro x h; cases h⟩
  ·have T : Hid (timeOf l = none) := Lib.hid (by rw [HT5.out]; rfl)
   obtain ⟨hd0, _⟩ := S10.cell 0
   obtain ⟨hd1, _⟩ := S10.cell 1
   obtain ⟨hd2, _⟩ := S10.cell 2
   obtain ⟨hd3, _⟩ := S10.cell 3
   obtain ⟨hd4, _⟩ := S10.cell 4
   obtain ⟨hd5, _⟩ := S10.cell 5
   obtain ⟨hd6, _⟩ := S10.cell 6
   obtain ⟨hd7, _⟩ := S10.cell 7
   simp only [List.getElem?_toArray, List.getElem?_cons_zero, List.getElem?_cons_succ] at hd0 hd1 hd2 hd3 hd4 hd5 hd6 hd7
   have hz0 := cell_of_row _ _ 0 _ _ _ S10.h0
   have hy0 := frozen_of_row _ _ 0 _ _ S10.h0
   have hz1 := cell_of_row _ _ 1 _ _ _ S10.h0
   have hy1 := frozen_of_row _ _ 1 _ _ S10.h0
   have hz2 := cell_of_row _ _ 2 _ _ _ S10.h0
   have hy2 := frozen_of_row _ _ 2 _ _ S10.h0
   have hz3 := cell_of_row _ _ 3 _ _ _ S10.h0
   have hy3 := frozen_of_row _ _ 3 _ _ S10.h0
   have hz4 := cell_of_row _ _ 4 _ _ _ S10.h0
   have hy4 := frozen_of_row _ _ 4 _ _ S10.h0
   have hz5 := cell_of_row _ _ 5 _ _ _ S10.h0
   have hy5 := frozen_of_row _ _ 5 _ _ S10.h0
   have hz6 := cell_of_row _ _ 6 _ _ _ S10.h0
   have hy6 := frozen_of_row _ _ 6 _ _ S10.h0
   have hz7 := cell_of_row _ _ 7 _ _ _ S10.h0
   have hy7 := frozen_of_row _ _ 7 _ _ S10.h0
   simp only [tCells, List.getElem?_toArray, List.getElem?_cons_zero, List.getElem?_cons_succ] at hz0 hz1 hz2 hz3 hz4 hz5 hz6 hz7
   go_upto_region 25 with fail
   go_region
   go_wp2
   exact bodyPost_ret (v := .tuple #[.agg (tCells y v1 v3 v5 v7 v9 v10 0), .bool false]) (results_25 Tryz.results27 _ _ _ _ _ _ rfl (S10.fin y v1 v3 v5 v7 v9 v10 0).1 rfl) rfl ⟨(S10.fin y v1 v3 v5 v7 v9 v10 0).2, y, v1, v3, v5, v7, v9, v10, 0, by rw [T.out]; rfl, by rw [T.out]; intro x h; cases h⟩
end Go.Proofs.YtillamhoakohdaaGreatDoor

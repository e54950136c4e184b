/-
  Walks: the words of the core schema, floats and texts as values, a tag's short form.
-/
import Derived.Test.YtillamhoakohdaaGreatDoorM08
set_option linter.unusedVariables false
set_option linter.unusedSimpArgs false
namespace Go.Proofs.YtillamhoakohdaaGreatDoor
open Go.RowKit
attribute [local go_sem] setCell_drewN

@[go_sem] theorem call17 (n : Int) (w : World) : (callFunc 17 #[.int .u64 n]).run Tryz.prog w = .ok (.value (.float .f64 n.toNat)) w := by
 rw [run_callFunc_extern Tryz.func17 (by kernel_rfl) (by kernel_rfl) (by kernel_rfl) (e := Extern.MathFloatBits.float64frombits) (by kernel_rfl)]; rfl
@[go_sem] theorem call20 (n : Nat) (w : World) : (callFunc 20 #[.float .f64 n]).run Tryz.prog w = .ok (.value (.int .u64 n)) w := by
 rw [run_callFunc_extern Tryz.func20 (by kernel_rfl) (by kernel_rfl) (by kernel_rfl) (e := Extern.MathFloatBits.float64bits) (by kernel_rfl)]; rfl

theorem results_tmp_cell_tmp {fn : Func} {q p u : Tmp} {ty : TypeId} (h : fn.results = #[.tmp q, .cell p ty, .tmp u]) (tmps : Array Value) (P : Program) (w : World) :
  (results fn tmps).run P w =
   ((asAddr (tmps.getD p undef)).run P w).andThen fun a w₁ => ((loadVar ty a).run P w₁).andThen fun v w₂ => .ok (.tuple #[tmps.getD q undef, v, tmps.getD u undef]) w₂ := by
 simp only [results, h]
 simp [Sem.run_bind, Result.andThen]
theorem results_tmp_cell {fn : Func} {q p : Tmp} {ty : TypeId} (h : fn.results = #[.tmp q, .cell p ty]) (tmps : Array Value) (P : Program) (w : World) :
  (results fn tmps).run P w =
   ((asAddr (tmps.getD p undef)).run P w).andThen fun a w₁ => ((loadVar ty a).run P w₁).andThen fun v w₂ => .ok (.tuple #[tmps.getD q undef, v]) w₂ := by
 simp only [results, h]
 simp [Sem.run_bind, Result.andThen]
theorem results_x28x {fn : Func} {q p u : Tmp} (h : fn.results = #[.tmp q, .cell p 28, .tmp u]) (tmps : Array Value) (w : World) (g : Nat) (t : TypeId) (cs : Array Value) (fr : Nat × Nat)
  (hp : tmps.getD p undef = .pointer (some ⟨g, 0, none⟩)) (hg : w.heap[g]? = some (.cells cs t fr)) (hn : cs.size = 16) :
  (results fn tmps).run Tryz.prog w = .ok (.tuple #[tmps.getD q undef, .agg cs, tmps.getD u undef]) w := by
 rw [results_tmp_cell_tmp h, hp]
 have h2 := run_loadVar_row (P := Tryz.prog) w g t 28 cs fr _ hg Tryz.underlying28 rfl (by rw [info28, hn])
 simp [asAddr, Result.andThen, h2]
theorem results_x28 {fn : Func} {q p : Tmp} (h : fn.results = #[.tmp q, .cell p 28]) (tmps : Array Value) (w : World) (g : Nat) (t : TypeId) (cs : Array Value) (fr : Nat × Nat)
  (hp : tmps.getD p undef = .pointer (some ⟨g, 0, none⟩)) (hg : w.heap[g]? = some (.cells cs t fr)) (hn : cs.size = 16) :
  (results fn tmps).run Tryz.prog w = .ok (.tuple #[tmps.getD q undef, .agg cs]) w := by
 rw [results_tmp_cell h, hp]
 have h2 := run_loadVar_row (P := Tryz.prog) w g t 28 cs fr _ hg Tryz.underlying28 rfl (by rw [info28, hn])
 simp [asAddr, Result.andThen, h2]
theorem results_28o {fn : Func} {p : Tmp} (h : fn.results = #[.cell p 28]) (tmps : Array Value) (w : World) (g : Nat) (t : TypeId) (cs : Array Value) (fr : Nat × Nat)
  (hp : tmps.getD p undef = .pointer (some ⟨g, 0, none⟩)) (hg : w.heap[g]? = some (.cells cs t fr)) (hn : cs.size = 16) :
  (results fn tmps).run Tryz.prog w = .ok (.agg cs) w := by
 rw [results_cell_row h tmps w g t cs fr _ hp hg Tryz.underlying28 rfl (by rw [info28, hn])]

def vCells (k : Int) (b : Bool) (i u f : Int) (t : ByteArray) (a0 a1 a2 a3 a4 a5 a6 a7 : Int) : Array Value :=
 #[.int .i64 k, .bool b, .int .i64 i, .int .u64 u, .int .u64 f, .string t, .int .i64 a0, .int .i64 a1, .int .i64 a2, .int .i64 a3, .int .i64 a4, .int .i64 a5, .int .i64 a6, .int .i64 a7, .slice none 0 0, .slice none 0 0]
theorem inf_pos (w : World) : Calls Tryz.prog 48 #[.int .i64 1] w fun e w' => e = .returned (.float .f64 9218868437227405312) ∧ w = w' := by
 go_enter Tryz.func48, Tryz.ntmps48
 go_wp2
 go_ret
 exact ⟨rfl, rfl⟩
theorem inf_neg (w : World) : Calls Tryz.prog 48 #[.int .i64 (-1)] w fun e w' => e = .returned (.float .f64 18442240474082181120) ∧ w = w' := by
 go_enter Tryz.func48, Tryz.ntmps48
 go_wp2
 go_ret
 exact ⟨rfl, rfl⟩
theorem nan_any (w : World) : Calls Tryz.prog 49 #[] w fun e w' => e = .returned (.float .f64 9221120237041090561) ∧ w = w' := by
 go_enter Tryz.func49, Tryz.ntmps49
 go_wp2
 go_ret
 exact ⟨rfl, rfl⟩

def ValPost (v : Value) (w : World) (e : Ending) (w' : World) : Prop := e = .returned v ∧ Below w.heap.size w w'
theorem floatOf_any (n : Nat) (w : World) : Calls Tryz.prog 16 #[.float .f64 n] w (ValPost (vAgg 4 false 0 0 n ⟨#[]⟩ 0 0 0 0 0 0 0 0) w) := by
 go_enter Tryz.func16, Tryz.ntmps16
 go_wp2_with (refine store28 rfl _ _ rfl _ _ rfl rfl (by rfl) (by rfl) 28 _ (heap_alloc_new _ _) (by rfl) ?_)
 exact bodyPost_ret (v := vAgg 4 false 0 0 n ⟨#[]⟩ 0 0 0 0 0 0 0 0) (results_28o Tryz.results16 _ _ _ _ _ _ rfl (row28_set _ _ _ _ (heap_alloc_new _ _)) rfl) rfl ⟨rfl, below_setRow ((Below.refl _ _).alloc (Nat.le_refl _) _) (Nat.le_refl _)⟩
theorem textOf_any (s : ByteArray) (w : World) : Calls Tryz.prog 14 #[.string s] w (ValPost (vAgg 5 false 0 0 0 s 0 0 0 0 0 0 0 0) w) := by
 go_enter Tryz.func14, Tryz.ntmps14
 go_wp2_with (refine store28 rfl _ _ rfl _ _ rfl rfl (by rfl) (by rfl) 28 _ (heap_alloc_new _ _) (by rfl) ?_)
 exact bodyPost_ret (v := vAgg 5 false 0 0 0 s 0 0 0 0 0 0 0 0) (results_28o Tryz.results14 _ _ _ _ _ _ rfl (row28_set _ _ _ _ (heap_alloc_new _ _)) rfl) rfl ⟨rfl, below_setRow ((Below.refl _ _).alloc (Nat.le_refl _) _) (Nat.le_refl _)⟩

def short (l : Bs) : Bs := if 18 < l.length ∧ l.take 18 = [116, 97, 103, 58, 121, 97, 109, 108, 46, 111, 114, 103, 44, 50, 48, 48, 50, 58] then [33, 33] ++ l.drop 18 else l
def StrPost (l : Bs) (w : World) (e : Ending) (w' : World) : Prop := w = w' ∧ ∃ s, StrIs s l ∧ e = .returned (.string s)
theorem StrIs.take {s : ByteArray} {l : Bs} (h : StrIs s l) (n : Nat) : StrIs (s.extract 0 n) (l.take n) := by
 unfold StrIs; rw [Lib.extract_data, h]; rfl
theorem StrIs.append {a b : ByteArray} {k l : Bs} (h1 : StrIs a k) (h2 : StrIs b l) : StrIs (a ++ b) (k ++ l) := by
 unfold StrIs at *; rw [ByteArray.data_append, Array.toList_append, h1, h2]
theorem ylShort_any (s : ByteArray) (l : Bs) (w : World) (hl : StrIs s l) (hs : s.size ≤ 1000) : Calls Tryz.prog 13 #[.string s] w (StrPost (short l) w) := by
 by_cases hz : 18 < s.size
 ·have hzi : (18 : Int) < (s.size : Int) := by omega
  have htk := hl.take 18
  have hdr := hl.drop 18
  by_cases ht : l.take 18 = [116, 97, 103, 58, 121, 97, 109, 108, 46, 111, 114, 103, 44, 50, 48, 48, 50, 58]
  ·have e1 : ((s.extract 0 18).toList == [116, 97, 103, 58, 121, 97, 109, 108, 46, 111, 114, 103, 44, 50, 48, 48, 50, 58]) = true := by rw [Lib.toList_data, htk, ht]; rfl
   have hsh : short l = [33, 33] ++ l.drop 18 := by unfold short; rw [if_pos ⟨by rw [← hl.size]; exact hz, ht⟩]
   have HSH := Lib.hid hsh
   clear hsh ht htk hl
   go_enter Tryz.func13, Tryz.ntmps13
   go_wp2
   exact bodyPost_ret (v := .string (⟨#[33, 33]⟩ ++ s.extract 18 s.size)) (by rw [results_tmp Tryz.results13]; rfl) rfl ⟨rfl, _, by rw [HSH.out]; exact StrIs.append rfl hdr, rfl⟩
  ·have e1 : ((s.extract 0 18).toList == [116, 97, 103, 58, 121, 97, 109, 108, 46, 111, 114, 103, 44, 50, 48, 48, 50, 58]) = false := by rw [Lib.toList_data, htk]; simpa using ht
   have hsh : short l = l := by unfold short; rw [if_neg (fun h => ht h.2)]
   have HSH := Lib.hid hsh
   have HL := Lib.hid hl
   clear hsh ht htk hl
   go_enter Tryz.func13, Tryz.ntmps13
   go_wp2
   exact bodyPost_ret (v := .string s) (by rw [results_tmp Tryz.results13]; rfl) rfl ⟨rfl, s, by rw [HSH.out]; exact HL.out, rfl⟩
 ·have hzi : decide ((18 : Int) < (s.size : Int)) = false := by simp; omega
  have hzj : (s.size : Int) ≤ 18 := by omega
  have hsh : short l = l := by unfold short; rw [if_neg (fun h => hz (by rw [hl.size]; exact h.1))]
  have HSH := Lib.hid hsh
  have HL := Lib.hid hl
  clear hsh hl hz
  go_enter Tryz.func13, Tryz.ntmps13
  go_wp2
  exact bodyPost_ret (v := .string s) (by rw [results_tmp Tryz.results13]; rfl) rfl ⟨rfl, s, by rw [HSH.out]; exact HL.out, rfl⟩

def wordOf (l : Bs) : Option (Bs × PV) :=
 if l = [] ∨ l = [126] ∨ l = [110, 117, 108, 108] ∨ l = [78, 117, 108, 108] ∨ l = [78, 85, 76, 76] then some ([33, 33, 110, 117, 108, 108], .nul) else
 if l = [116, 114, 117, 101] ∨ l = [84, 114, 117, 101] ∨ l = [84, 82, 85, 69] then some ([33, 33, 98, 111, 111, 108], .bool true) else
 if l = [102, 97, 108, 115, 101] ∨ l = [70, 97, 108, 115, 101] ∨ l = [70, 65, 76, 83, 69] then some ([33, 33, 98, 111, 111, 108], .bool false) else
 if l = [46, 105, 110, 102] ∨ l = [46, 73, 110, 102] ∨ l = [46, 73, 78, 70] ∨ l = [43, 46, 105, 110, 102] ∨ l = [43, 46, 73, 110, 102] ∨ l = [43, 46, 73, 78, 70] then some ([33, 33, 102, 108, 111, 97, 116], .flt 9218868437227405312) else
 if l = [45, 46, 105, 110, 102] ∨ l = [45, 46, 73, 110, 102] ∨ l = [45, 46, 73, 78, 70] then some ([33, 33, 102, 108, 111, 97, 116], .flt 18442240474082181120) else
 if l = [46, 110, 97, 110] ∨ l = [46, 78, 97, 78] ∨ l = [46, 78, 65, 78] then some ([33, 33, 102, 108, 111, 97, 116], .flt 9221120237041090561) else
 none

def WordPost (l : Bs) (w : World) (e : Ending) (w' : World) : Prop := Below w.heap.size w w' ∧
  ((∃ t pv s v, wordOf l = some (t, pv) ∧ StrIs s t ∧ VIs pv v ∧ e = .returned (.tuple #[.string s, v, .bool true])) ∨
   (wordOf l = none ∧ e = .returned (.tuple #[.string ⟨#[]⟩, .agg z28, .bool false])))
theorem wordPost_some {l : Bs} {w w' : World} {t : Bs} {pv : PV} {s : ByteArray} {v : Value} (hw : Below w.heap.size w w') (h1 : wordOf l = some (t, pv)) (h2 : StrIs s t) (h3 : VIs pv v) : WordPost l w (.returned (.tuple #[.string s, v, .bool true])) w' :=
 ⟨hw, .inl ⟨t, pv, s, v, h1, h2, h3, rfl⟩⟩

set_option maxHeartbeats 4000000 in
theorem ylWord_any (s : ByteArray) (l : Bs) (w : World) (hl : StrIs s l) : Calls Tryz.prog 25 #[.string s] w (WordPost l w) := by
 have hst : s.toList = l := by rw [Lib.toList_data]; exact hl
 have HST := Lib.hid hst
 clear hst hl
 by_cases h0 : l = []
 ·have T : Hid (wordOf l = some ([33, 33, 110, 117, 108, 108], .nul)) := Lib.hid (by rw [h0]; rfl)
  have e0 : s.toList.isEmpty = true := by rw [HST.out, h0]; rfl
  clear HST h0
  go_enter Tryz.func25, Tryz.ntmps25
  go_wp2_with (refine store28 rfl _ _ rfl _ _ rfl rfl (by rfl) (by rfl) 28 _ (heap_alloc_new _ _) (by rfl) ?_)
  exact bodyPost_ret (v := .tuple #[.string ⟨#[33, 33, 110, 117, 108, 108]⟩, .agg (vCells 0 false 0 0 0 ⟨#[]⟩ 0 0 0 0 0 0 0 0), .bool true]) (results_x28x Tryz.results25 _ _ _ _ _ _ rfl (row28_set _ _ _ _ (heap_alloc_new _ _)) rfl) rfl (wordPost_some (below_setRow ((Below.refl _ _).alloc (Nat.le_refl _) _) (Nat.le_refl _)) T.out rfl (VIs.nul))
 by_cases h1 : l = [126]
 ·have T : Hid (wordOf l = some ([33, 33, 110, 117, 108, 108], .nul)) := Lib.hid (by rw [h1]; rfl)
  have e0 : s.toList.isEmpty = false := by rw [HST.out, h1]; rfl
  have e1 : (s.toList == [126]) = true := by rw [HST.out, h1]; decide
  clear HST h0 h1
  go_enter Tryz.func25, Tryz.ntmps25
  go_wp2_with (refine store28 rfl _ _ rfl _ _ rfl rfl (by rfl) (by rfl) 28 _ (heap_alloc_new _ _) (by rfl) ?_)
  exact bodyPost_ret (v := .tuple #[.string ⟨#[33, 33, 110, 117, 108, 108]⟩, .agg (vCells 0 false 0 0 0 ⟨#[]⟩ 0 0 0 0 0 0 0 0), .bool true]) (results_x28x Tryz.results25 _ _ _ _ _ _ rfl (row28_set _ _ _ _ (heap_alloc_new _ _)) rfl) rfl (wordPost_some (below_setRow ((Below.refl _ _).alloc (Nat.le_refl _) _) (Nat.le_refl _)) T.out rfl (VIs.nul))
 by_cases h2 : l = [110, 117, 108, 108]
 ·have T : Hid (wordOf l = some ([33, 33, 110, 117, 108, 108], .nul)) := Lib.hid (by rw [h2]; rfl)
  have e0 : s.toList.isEmpty = false := by rw [HST.out, h2]; rfl
  have e1 : (s.toList == [126]) = false := by rw [HST.out, h2]; decide
  have e2 : (s.toList == [110, 117, 108, 108]) = true := by rw [HST.out, h2]; decide
  clear HST h0 h1 h2
  go_enter Tryz.func25, Tryz.ntmps25
  go_wp2_with (refine store28 rfl _ _ rfl _ _ rfl rfl (by rfl) (by rfl) 28 _ (heap_alloc_new _ _) (by rfl) ?_)
  exact bodyPost_ret (v := .tuple #[.string ⟨#[33, 33, 110, 117, 108, 108]⟩, .agg (vCells 0 false 0 0 0 ⟨#[]⟩ 0 0 0 0 0 0 0 0), .bool true]) (results_x28x Tryz.results25 _ _ _ _ _ _ rfl (row28_set _ _ _ _ (heap_alloc_new _ _)) rfl) rfl (wordPost_some (below_setRow ((Below.refl _ _).alloc (Nat.le_refl _) _) (Nat.le_refl _)) T.out rfl (VIs.nul))
 by_cases h3 : l = [78, 117, 108, 108]
 ·have T : Hid (wordOf l = some ([33, 33, 110, 117, 108, 108], .nul)) := Lib.hid (by rw [h3]; rfl)
  have e0 : s.toList.isEmpty = false := by rw [HST.out, h3]; rfl
  have e1 : (s.toList == [126]) = false := by rw [HST.out, h3]; decide
  have e2 : (s.toList == [110, 117, 108, 108]) = false := by rw [HST.out, h3]; decide
  have e3 : (s.toList == [78, 117, 108, 108]) = true := by rw [HST.out, h3]; decide
  clear HST h0 h1 h2 h3
  go_enter Tryz.func25, Tryz.ntmps25
  go_wp2_with (refine store28 rfl _ _ rfl _ _ rfl rfl (by rfl) (by rfl) 28 _ (heap_alloc_new _ _) (by rfl) ?_)
  exact bodyPost_ret (v := .tuple #[.string ⟨#[33, 33, 110, 117, 108, 108]⟩, .agg (vCells 0 false 0 0 0 ⟨#[]⟩ 0 0 0 0 0 0 0 0), .bool true]) (results_x28x Tryz.results25 _ _ _ _ _ _ rfl (row28_set _ _ _ _ (heap_alloc_new _ _)) rfl) rfl (wordPost_some (below_setRow ((Below.refl _ _).alloc (Nat.le_refl _) _) (Nat.le_refl _)) T.out rfl (VIs.nul))
 by_cases h4 : l = [78, 85, 76, 76]
 ·have T : Hid (wordOf l = some ([33, 33, 110, 117, 108, 108], .nul)) := Lib.hid (by rw [h4]; rfl)
  have e0 : s.toList.isEmpty = false := by rw [HST.out, h4]; rfl
  have e1 : (s.toList == [126]) = false := by rw [HST.out, h4]; decide
  have e2 : (s.toList == [110, 117, 108, 108]) = false := by rw [HST.out, h4]; decide
  have e3 : (s.toList == [78, 117, 108, 108]) = false := by rw [HST.out, h4]; decide
  have e4 : (s.toList == [78, 85, 76, 76]) = true := by rw [HST.out, h4]; decide
  clear HST h0 h1 h2 h3 h4
  go_enter Tryz.func25, Tryz.ntmps25
  go_wp2_with (refine store28 rfl _ _ rfl _ _ rfl rfl (by rfl) (by rfl) 28 _ (heap_alloc_new _ _) (by rfl) ?_)
  exact bodyPost_ret (v := .tuple #[.string ⟨#[33, 33, 110, 117, 108, 108]⟩, .agg (vCells 0 false 0 0 0 ⟨#[]⟩ 0 0 0 0 0 0 0 0), .bool true]) (results_x28x Tryz.results25 _ _ _ _ _ _ rfl (row28_set _ _ _ _ (heap_alloc_new _ _)) rfl) rfl (wordPost_some (below_setRow ((Below.refl _ _).alloc (Nat.le_refl _) _) (Nat.le_refl _)) T.out rfl (VIs.nul))
 by_cases h5 : l = [116, 114, 117, 101]
 ·have T : Hid (wordOf l = some ([33, 33, 98, 111, 111, 108], .bool true)) := Lib.hid (by rw [h5]; rfl)
  have e0 : s.toList.isEmpty = false := by rw [HST.out, h5]; rfl
  have e1 : (s.toList == [126]) = false := by rw [HST.out, h5]; decide
  have e2 : (s.toList == [110, 117, 108, 108]) = false := by rw [HST.out, h5]; decide
  have e3 : (s.toList == [78, 117, 108, 108]) = false := by rw [HST.out, h5]; decide
  have e4 : (s.toList == [78, 85, 76, 76]) = false := by rw [HST.out, h5]; decide
  have e5 : (s.toList == [116, 114, 117, 101]) = true := by rw [HST.out, h5]; decide
  clear HST h0 h1 h2 h3 h4 h5
  go_enter Tryz.func25, Tryz.ntmps25
  go_wp2_with (refine store28 rfl _ _ rfl _ _ rfl rfl (by rfl) (by rfl) 28 _ (heap_alloc_new _ _) (by rfl) ?_)
  exact bodyPost_ret (v := .tuple #[.string ⟨#[33, 33, 98, 111, 111, 108]⟩, .agg (vCells 1 true 0 0 0 ⟨#[]⟩ 0 0 0 0 0 0 0 0), .bool true]) (results_x28x Tryz.results25 _ _ _ _ _ _ rfl (row28_set _ _ _ _ (heap_alloc_new _ _)) rfl) rfl (wordPost_some (below_setRow ((Below.refl _ _).alloc (Nat.le_refl _) _) (Nat.le_refl _)) T.out rfl (VIs.bool true))
 by_cases h6 : l = [84, 114, 117, 101]
 ·have T : Hid (wordOf l = some ([33, 33, 98, 111, 111, 108], .bool true)) := Lib.hid (by rw [h6]; rfl)
  have e0 : s.toList.isEmpty = false := by rw [HST.out, h6]; rfl
  have e1 : (s.toList == [126]) = false := by rw [HST.out, h6]; decide
  have e2 : (s.toList == [110, 117, 108, 108]) = false := by rw [HST.out, h6]; decide
  have e3 : (s.toList == [78, 117, 108, 108]) = false := by rw [HST.out, h6]; decide
  have e4 : (s.toList == [78, 85, 76, 76]) = false := by rw [HST.out, h6]; decide
  have e5 : (s.toList == [116, 114, 117, 101]) = false := by rw [HST.out, h6]; decide
  have e6 : (s.toList == [84, 114, 117, 101]) = true := by rw [HST.out, h6]; decide
  clear HST h0 h1 h2 h3 h4 h5 h6
  go_enter Tryz.func25, Tryz.ntmps25
  go_wp2_with (refine store28 rfl _ _ rfl _ _ rfl rfl (by rfl) (by rfl) 28 _ (heap_alloc_new _ _) (by rfl) ?_)
  exact bodyPost_ret (v := .tuple #[.string ⟨#[33, 33, 98, 111, 111, 108]⟩, .agg (vCells 1 true 0 0 0 ⟨#[]⟩ 0 0 0 0 0 0 0 0), .bool true]) (results_x28x Tryz.results25 _ _ _ _ _ _ rfl (row28_set _ _ _ _ (heap_alloc_new _ _)) rfl) rfl (wordPost_some (below_setRow ((Below.refl _ _).alloc (Nat.le_refl _) _) (Nat.le_refl _)) T.out rfl (VIs.bool true))
 by_cases h7 : l = [84, 82, 85, 69]
 ·have T : Hid (wordOf l = some ([33, 33, 98, 111, 111, 108], .bool true)) := Lib.hid (by rw [h7]; rfl)
  have e0 : s.toList.isEmpty = false := by rw [HST.out, h7]; rfl
  have e1 : (s.toList == [126]) = false := by rw [HST.out, h7]; decide
  have e2 : (s.toList == [110, 117, 108, 108]) = false := by rw [HST.out, h7]; decide
  have e3 : (s.toList == [78, 117, 108, 108]) = false := by rw [HST.out, h7]; decide
  have e4 : (s.toList == [78, 85, 76, 76]) = false := by rw [HST.out, h7]; decide
  have e5 : (s.toList == [116, 114, 117, 101]) = false := by rw [HST.out, h7]; decide
  have e6 : (s.toList == [84, 114, 117, 101]) = false := by rw [HST.out, h7]; decide
  have e7 : (s.toList == [84, 82, 85, 69]) = true := by rw [HST.out, h7]; decide
  clear HST h0 h1 h2 h3 h4 h5 h6 h7
  go_enter Tryz.func25, Tryz.ntmps25
  go_wp2_with (refine store28 rfl _ _ rfl _ _ rfl rfl (by rfl) (by rfl) 28 _ (heap_alloc_new _ _) (by rfl) ?_)
  exact bodyPost_ret (v := .tuple #[.string ⟨#[33, 33, 98, 111, 111, 108]⟩, .agg (vCells 1 true 0 0 0 ⟨#[]⟩ 0 0 0 0 0 0 0 0), .bool true]) (results_x28x Tryz.results25 _ _ _ _ _ _ rfl (row28_set _ _ _ _ (heap_alloc_new _ _)) rfl) rfl (wordPost_some (below_setRow ((Below.refl _ _).alloc (Nat.le_refl _) _) (Nat.le_refl _)) T.out rfl (VIs.bool true))
 by_cases h8 : l = [102, 97, 108, 115, 101]
 ·have T : Hid (wordOf l = some ([33, 33, 98, 111, 111, 108], .bool false)) := Lib.hid (by rw [h8]; rfl)
  have e0 : s.toList.isEmpty = false := by rw [HST.out, h8]; rfl
  have e1 : (s.toList == [126]) = false := by rw [HST.out, h8]; decide
  have e2 : (s.toList == [110, 117, 108, 108]) = false := by rw [HST.out, h8]; decide
  have e3 : (s.toList == [78, 117, 108, 108]) = false := by rw [HST.out, h8]; decide
  have e4 : (s.toList == [78, 85, 76, 76]) = false := by rw [HST.out, h8]; decide
  have e5 : (s.toList == [116, 114, 117, 101]) = false := by rw [HST.out, h8]; decide
  have e6 : (s.toList == [84, 114, 117, 101]) = false := by rw [HST.out, h8]; decide
  have e7 : (s.toList == [84, 82, 85, 69]) = false := by rw [HST.out, h8]; decide
  have e8 : (s.toList == [102, 97, 108, 115, 101]) = true := by rw [HST.out, h8]; decide
  clear HST h0 h1 h2 h3 h4 h5 h6 h7 h8
  go_enter Tryz.func25, Tryz.ntmps25
  go_wp2_with (refine store28 rfl _ _ rfl _ _ rfl rfl (by rfl) (by rfl) 28 _ (heap_alloc_new _ _) (by rfl) ?_)
  exact bodyPost_ret (v := .tuple #[.string ⟨#[33, 33, 98, 111, 111, 108]⟩, .agg (vCells 1 false 0 0 0 ⟨#[]⟩ 0 0 0 0 0 0 0 0), .bool true]) (results_x28x Tryz.results25 _ _ _ _ _ _ rfl (row28_set _ _ _ _ (heap_alloc_new _ _)) rfl) rfl (wordPost_some (below_setRow ((Below.refl _ _).alloc (Nat.le_refl _) _) (Nat.le_refl _)) T.out rfl (VIs.bool false))
 by_cases h9 : l = [70, 97, 108, 115, 101]
 ·have T : Hid (wordOf l = some ([33, 33, 98, 111, 111, 108], .bool false)) := Lib.hid (by rw [h9]; rfl)
  have e0 : s.toList.isEmpty = false := by rw [HST.out, h9]; rfl
  have e1 : (s.toList == [126]) = false := by rw [HST.out, h9]; decide
  have e2 : (s.toList == [110, 117, 108, 108]) = false := by rw [HST.out, h9]; decide
  have e3 : (s.toList == [78, 117, 108, 108]) = false := by rw [HST.out, h9]; decide
  have e4 : (s.toList == [78, 85, 76, 76]) = false := by rw [HST.out, h9]; decide
  have e5 : (s.toList == [116, 114, 117, 101]) = false := by rw [HST.out, h9]; decide
  have e6 : (s.toList == [84, 114, 117, 101]) = false := by rw [HST.out, h9]; decide
  have e7 : (s.toList == [84, 82, 85, 69]) = false := by rw [HST.out, h9]; decide
  have e8 : (s.toList == [102, 97, 108, 115, 101]) = false := by rw [HST.out, h9]; decide
  have e9 : (s.toList == [70, 97, 108, 115, 101]) = true := by rw [HST.out, h9]; decide
  clear HST h0 h1 h2 h3 h4 h5 h6 h7 h8 h9
  go_enter Tryz.func25, Tryz.ntmps25
  go_wp2_with (refine store28 rfl _ _ rfl _ _ rfl rfl (by rfl) (by rfl) 28 _ (heap_alloc_new _ _) (by rfl) ?_)
  exact bodyPost_ret (v := .tuple #[.string ⟨#[33, 33, 98, 111, 111, 108]⟩, .agg (vCells 1 false 0 0 0 ⟨#[]⟩ 0 0 0 0 0 0 0 0), .bool true]) (results_x28x Tryz.results25 _ _ _ _ _ _ rfl (row28_set _ _ _ _ (heap_alloc_new _ _)) rfl) rfl (wordPost_some (below_setRow ((Below.refl _ _).alloc (Nat.le_refl _) _) (Nat.le_refl _)) T.out rfl (VIs.bool false))
 by_cases h10 : l = [70, 65, 76, 83, 69]
 ·have T : Hid (wordOf l = some ([33, 33, 98, 111, 111, 108], .bool false)) := Lib.hid (by rw [h10]; rfl)
  have e0 : s.toList.isEmpty = false := by rw [HST.out, h10]; rfl
  have e1 : (s.toList == [126]) = false := by rw [HST.out, h10]; decide
  have e2 : (s.toList == [110, 117, 108, 108]) = false := by rw [HST.out, h10]; decide
  have e3 : (s.toList == [78, 117, 108, 108]) = false := by rw [HST.out, h10]; decide
  have e4 : (s.toList == [78, 85, 76, 76]) = false := by rw [HST.out, h10]; decide
  have e5 : (s.toList == [116, 114, 117, 101]) = false := by rw [HST.out, h10]; decide
  have e6 : (s.toList == [84, 114, 117, 101]) = false := by rw [HST.out, h10]; decide
  have e7 : (s.toList == [84, 82, 85, 69]) = false := by rw [HST.out, h10]; decide
  have e8 : (s.toList == [102, 97, 108, 115, 101]) = false := by rw [HST.out, h10]; decide
  have e9 : (s.toList == [70, 97, 108, 115, 101]) = false := by rw [HST.out, h10]; decide
  have e10 : (s.toList == [70, 65, 76, 83, 69]) = true := by rw [HST.out, h10]; decide
  clear HST h0 h1 h2 h3 h4 h5 h6 h7 h8 h9 h10
  go_enter Tryz.func25, Tryz.ntmps25
  go_wp2_with (refine store28 rfl _ _ rfl _ _ rfl rfl (by rfl) (by rfl) 28 _ (heap_alloc_new _ _) (by rfl) ?_)
  exact bodyPost_ret (v := .tuple #[.string ⟨#[33, 33, 98, 111, 111, 108]⟩, .agg (vCells 1 false 0 0 0 ⟨#[]⟩ 0 0 0 0 0 0 0 0), .bool true]) (results_x28x Tryz.results25 _ _ _ _ _ _ rfl (row28_set _ _ _ _ (heap_alloc_new _ _)) rfl) rfl (wordPost_some (below_setRow ((Below.refl _ _).alloc (Nat.le_refl _) _) (Nat.le_refl _)) T.out rfl (VIs.bool false))
 by_cases h11 : l = [46, 105, 110, 102]
 ·have T : Hid (wordOf l = some ([33, 33, 102, 108, 111, 97, 116], .flt 9218868437227405312)) := Lib.hid (by rw [h11]; rfl)
  have e0 : s.toList.isEmpty = false := by rw [HST.out, h11]; rfl
  have e1 : (s.toList == [126]) = false := by rw [HST.out, h11]; decide
  have e2 : (s.toList == [110, 117, 108, 108]) = false := by rw [HST.out, h11]; decide
  have e3 : (s.toList == [78, 117, 108, 108]) = false := by rw [HST.out, h11]; decide
  have e4 : (s.toList == [78, 85, 76, 76]) = false := by rw [HST.out, h11]; decide
  have e5 : (s.toList == [116, 114, 117, 101]) = false := by rw [HST.out, h11]; decide
  have e6 : (s.toList == [84, 114, 117, 101]) = false := by rw [HST.out, h11]; decide
  have e7 : (s.toList == [84, 82, 85, 69]) = false := by rw [HST.out, h11]; decide
  have e8 : (s.toList == [102, 97, 108, 115, 101]) = false := by rw [HST.out, h11]; decide
  have e9 : (s.toList == [70, 97, 108, 115, 101]) = false := by rw [HST.out, h11]; decide
  have e10 : (s.toList == [70, 65, 76, 83, 69]) = false := by rw [HST.out, h11]; decide
  have e11 : (s.toList == [46, 105, 110, 102]) = true := by rw [HST.out, h11]; decide
  clear HST h0 h1 h2 h3 h4 h5 h6 h7 h8 h9 h10 h11
  go_enter Tryz.func25, Tryz.ntmps25
  go_wp2_with fail
  refine (inf_pos _).mono ?_
  rintro e w' ⟨rfl, rfl⟩
  go_wp2_with fail
  refine (floatOf_any 9218868437227405312 _).mono ?_
  rintro e w' ⟨rfl, hb⟩
  have hg := hg_below hb (by simp) (heap_alloc_new w (.cells z28 28 (0, 0)))
  have hB : Below w.heap.size w w' := ((Below.refl _ _).alloc (Nat.le_refl _) _).trans (hb.mono (by simp))
  clear hb
  go_wp2_with (refine store28 rfl _ _ rfl _ _ rfl rfl (by rfl) (by rfl) 28 _ hg (by rfl) ?_)
  exact bodyPost_ret (v := .tuple #[.string ⟨#[33, 33, 102, 108, 111, 97, 116]⟩, .agg (vCells 4 false 0 0 9218868437227405312 ⟨#[]⟩ 0 0 0 0 0 0 0 0), .bool true]) (results_x28x Tryz.results25 _ _ _ _ _ _ rfl (row28_set _ _ _ _ hg) rfl) rfl (wordPost_some (below_setRow hB (Nat.le_refl _)) T.out rfl (VIs.flt 9218868437227405312))
 by_cases h12 : l = [46, 73, 110, 102]
 ·have T : Hid (wordOf l = some ([33, 33, 102, 108, 111, 97, 116], .flt 9218868437227405312)) := Lib.hid (by rw [h12]; rfl)
  have e0 : s.toList.isEmpty = false := by rw [HST.out, h12]; rfl
  have e1 : (s.toList == [126]) = false := by rw [HST.out, h12]; decide
  have e2 : (s.toList == [110, 117, 108, 108]) = false := by rw [HST.out, h12]; decide
  have e3 : (s.toList == [78, 117, 108, 108]) = false := by rw [HST.out, h12]; decide
  have e4 : (s.toList == [78, 85, 76, 76]) = false := by rw [HST.out, h12]; decide
  have e5 : (s.toList == [116, 114, 117, 101]) = false := by rw [HST.out, h12]; decide
  have e6 : (s.toList == [84, 114, 117, 101]) = false := by rw [HST.out, h12]; decide
  have e7 : (s.toList == [84, 82, 85, 69]) = false := by rw [HST.out, h12]; decide
  have e8 : (s.toList == [102, 97, 108, 115, 101]) = false := by rw [HST.out, h12]; decide
  have e9 : (s.toList == [70, 97, 108, 115, 101]) = false := by rw [HST.out, h12]; decide
  have e10 : (s.toList == [70, 65, 76, 83, 69]) = false := by rw [HST.out, h12]; decide
  have e11 : (s.toList == [46, 105, 110, 102]) = false := by rw [HST.out, h12]; decide
  have e12 : (s.toList == [46, 73, 110, 102]) = true := by rw [HST.out, h12]; decide
  clear HST h0 h1 h2 h3 h4 h5 h6 h7 h8 h9 h10 h11 h12
  go_enter Tryz.func25, Tryz.ntmps25
  go_wp2_with fail
  refine (inf_pos _).mono ?_
  rintro e w' ⟨rfl, rfl⟩
  go_wp2_with fail
  refine (floatOf_any 9218868437227405312 _).mono ?_
  rintro e w' ⟨rfl, hb⟩
  have hg := hg_below hb (by simp) (heap_alloc_new w (.cells z28 28 (0, 0)))
  have hB : Below w.heap.size w w' := ((Below.refl _ _).alloc (Nat.le_refl _) _).trans (hb.mono (by simp))
  clear hb
  go_wp2_with (refine store28 rfl _ _ rfl _ _ rfl rfl (by rfl) (by rfl) 28 _ hg (by rfl) ?_)
  exact bodyPost_ret (v := .tuple #[.string ⟨#[33, 33, 102, 108, 111, 97, 116]⟩, .agg (vCells 4 false 0 0 9218868437227405312 ⟨#[]⟩ 0 0 0 0 0 0 0 0), .bool true]) (results_x28x Tryz.results25 _ _ _ _ _ _ rfl (row28_set _ _ _ _ hg) rfl) rfl (wordPost_some (below_setRow hB (Nat.le_refl _)) T.out rfl (VIs.flt 9218868437227405312))
 by_cases h13 : l = [46, 73, 78, 70]
 ·have T : Hid (wordOf l = some ([33, 33, 102, 108, 111, 97, 116], .flt 9218868437227405312)) := Lib.hid (by rw [h13]; rfl)
  have e0 : s.toList.isEmpty = false := by rw [HST.out, h13]; rfl
  have e1 : (s.toList == [126]) = false := by rw [HST.out, h13]; decide
  have e2 : (s.toList == [110, 117, 108, 108]) = false := by rw [HST.out, h13]; decide
  have e3 : (s.toList == [78, 117, 108, 108]) = false := by rw [HST.out, h13]; decide
  have e4 : (s.toList == [78, 85, 76, 76]) = false := by rw [HST.out, h13]; decide
  have e5 : (s.toList == [116, 114, 117, 101]) = false := by rw [HST.out, h13]; decide
  have e6 : (s.toList == [84, 114, 117, 101]) = false := by rw [HST.out, h13]; decide
  have e7 : (s.toList == [84, 82, 85, 69]) = false := by rw [HST.out, h13]; decide
  have e8 : (s.toList == [102, 97, 108, 115, 101]) = false := by rw [HST.out, h13]; decide
  have e9 : (s.toList == [70, 97, 108, 115, 101]) = false := by rw [HST.out, h13]; decide
  have e10 : (s.toList == [70, 65, 76, 83, 69]) = false := by rw [HST.out, h13]; decide
  have e11 : (s.toList == [46, 105, 110, 102]) = false := by rw [HST.out, h13]; decide
  have e12 : (s.toList == [46, 73, 110, 102]) = false := by rw [HST.out, h13]; decide
  have e13 : (s.toList == [46, 73, 78, 70]) = true := by rw [HST.out, h13]; decide
  clear HST h0 h1 h2 h3 h4 h5 h6 h7 h8 h9 h10 h11 h12 h13
  go_enter Tryz.func25, Tryz.ntmps25
  go_wp2_with fail
  refine (inf_pos _).mono ?_
  rintro e w' ⟨rfl, rfl⟩
  go_wp2_with fail
  refine (floatOf_any 9218868437227405312 _).mono ?_
  rintro e w' ⟨rfl, hb⟩
  have hg := hg_below hb (by simp) (heap_alloc_new w (.cells z28 28 (0, 0)))
  have hB : Below w.heap.size w w' := ((Below.refl _ _).alloc (Nat.le_refl _) _).trans (hb.mono (by simp))
  clear hb
  go_wp2_with (refine store28 rfl _ _ rfl _ _ rfl rfl (by rfl) (by rfl) 28 _ hg (by rfl) ?_)
  exact bodyPost_ret (v := .tuple #[.string ⟨#[33, 33, 102, 108, 111, 97, 116]⟩, .agg (vCells 4 false 0 0 9218868437227405312 ⟨#[]⟩ 0 0 0 0 0 0 0 0), .bool true]) (results_x28x Tryz.results25 _ _ _ _ _ _ rfl (row28_set _ _ _ _ hg) rfl) rfl (wordPost_some (below_setRow hB (Nat.le_refl _)) T.out rfl (VIs.flt 9218868437227405312))
 by_cases h14 : l = [43, 46, 105, 110, 102]
 ·have T : Hid (wordOf l = some ([33, 33, 102, 108, 111, 97, 116], .flt 9218868437227405312)) := Lib.hid (by rw [h14]; rfl)
  have e0 : s.toList.isEmpty = false := by rw [HST.out, h14]; rfl
  have e1 : (s.toList == [126]) = false := by rw [HST.out, h14]; decide
  have e2 : (s.toList == [110, 117, 108, 108]) = false := by rw [HST.out, h14]; decide
  have e3 : (s.toList == [78, 117, 108, 108]) = false := by rw [HST.out, h14]; decide
  have e4 : (s.toList == [78, 85, 76, 76]) = false := by rw [HST.out, h14]; decide
  have e5 : (s.toList == [116, 114, 117, 101]) = false := by rw [HST.out, h14]; decide
  have e6 : (s.toList == [84, 114, 117, 101]) = false := by rw [HST.out, h14]; decide
  have e7 : (s.toList == [84, 82, 85, 69]) = false := by rw [HST.out, h14]; decide
  have e8 : (s.toList == [102, 97, 108, 115, 101]) = false := by rw [HST.out, h14]; decide
  have e9 : (s.toList == [70, 97, 108, 115, 101]) = false := by rw [HST.out, h14]; decide
  have e10 : (s.toList == [70, 65, 76, 83, 69]) = false := by rw [HST.out, h14]; decide
  have e11 : (s.toList == [46, 105, 110, 102]) = false := by rw [HST.out, h14]; decide
  have e12 : (s.toList == [46, 73, 110, 102]) = false := by rw [HST.out, h14]; decide
  have e13 : (s.toList == [46, 73, 78, 70]) = false := by rw [HST.out, h14]; decide
  have e14 : (s.toList == [43, 46, 105, 110, 102]) = true := by rw [HST.out, h14]; decide
  clear HST h0 h1 h2 h3 h4 h5 h6 h7 h8 h9 h10 h11 h12 h13 h14
  go_enter Tryz.func25, Tryz.ntmps25
  go_wp2_with fail
  refine (inf_pos _).mono ?_
  rintro e w' ⟨rfl, rfl⟩
  go_wp2_with fail
  refine (floatOf_any 9218868437227405312 _).mono ?_
  rintro e w' ⟨rfl, hb⟩
  have hg := hg_below hb (by simp) (heap_alloc_new w (.cells z28 28 (0, 0)))
  have hB : Below w.heap.size w w' := ((Below.refl _ _).alloc (Nat.le_refl _) _).trans (hb.mono (by simp))
  clear hb
  go_wp2_with (refine store28 rfl _ _ rfl _ _ rfl rfl (by rfl) (by rfl) 28 _ hg (by rfl) ?_)
  exact bodyPost_ret (v := .tuple #[.string ⟨#[33, 33, 102, 108, 111, 97, 116]⟩, .agg (vCells 4 false 0 0 9218868437227405312 ⟨#[]⟩ 0 0 0 0 0 0 0 0), .bool true]) (results_x28x Tryz.results25 _ _ _ _ _ _ rfl (row28_set _ _ _ _ hg) rfl) rfl (wordPost_some (below_setRow hB (Nat.le_refl _)) T.out rfl (VIs.flt 9218868437227405312))
 by_cases h15 : l = [43, 46, 73, 110, 102]
 ·have T : Hid (wordOf l = some ([33, 33, 102, 108, 111, 97, 116], .flt 9218868437227405312)) := Lib.hid (by rw [h15]; rfl)
  have e0 : s.toList.isEmpty = false := by rw [HST.out, h15]; rfl
  have e1 : (s.toList == [126]) = false := by rw [HST.out, h15]; decide
  have e2 : (s.toList == [110, 117, 108, 108]) = false := by rw [HST.out, h15]; decide
  have e3 : (s.toList == [78, 117, 108, 108]) = false := by rw [HST.out, h15]; decide
  have e4 : (s.toList == [78, 85, 76, 76]) = false := by rw [HST.out, h15]; decide
  have e5 : (s.toList == [116, 114, 117, 101]) = false := by rw [HST.out, h15]; decide
  have e6 : (s.toList == [84, 114, 117, 101]) = false := by rw [HST.out, h15]; decide
  have e7 : (s.toList == [84, 82, 85, 69]) = false := by rw [HST.out, h15]; decide
  have e8 : (s.toList == [102, 97, 108, 115, 101]) = false := by rw [HST.out, h15]; decide
  have e9 : (s.toList == [70, 97, 108, 115, 101]) = false := by rw [HST.out, h15]; decide
  have e10 : (s.toList == [70, 65, 76, 83, 69]) = false := by rw [HST.out, h15]; decide
  have e11 : (s.toList == [46, 105, 110, 102]) = false := by rw [HST.out, h15]; decide
  have e12 : (s.toList == [46, 73, 110, 102]) = false := by rw [HST.out, h15]; decide
  have e13 : (s.toList == [46, 73, 78, 70]) = false := by rw [HST.out, h15]; decide
  have e14 : (s.toList == [43, 46, 105, 110, 102]) = false := by rw [HST.out, h15]; decide
  have e15 : (s.toList == [43, 46, 73, 110, 102]) = true := by rw [HST.out, h15]; decide
  clear HST h0 h1 h2 h3 h4 h5 h6 h7 h8 h9 h10 h11 h12 h13 h14 h15
  go_enter Tryz.func25, Tryz.ntmps25
  go_wp2_with fail
  refine (inf_pos _).mono ?_
  rintro e w' ⟨rfl, rfl⟩
  go_wp2_with fail
  refine (floatOf_any 9218868437227405312 _).mono ?_
  rintro e w' ⟨rfl, hb⟩
  have hg := hg_below hb (by simp) (heap_alloc_new w (.cells z28 28 (0, 0)))
  have hB : Below w.heap.size w w' := ((Below.refl _ _).alloc (Nat.le_refl _) _).trans (hb.mono (by simp))
  clear hb
  go_wp2_with (refine store28 rfl _ _ rfl _ _ rfl rfl (by rfl) (by rfl) 28 _ hg (by rfl) ?_)
  exact bodyPost_ret (v := .tuple #[.string ⟨#[33, 33, 102, 108, 111, 97, 116]⟩, .agg (vCells 4 false 0 0 9218868437227405312 ⟨#[]⟩ 0 0 0 0 0 0 0 0), .bool true]) (results_x28x Tryz.results25 _ _ _ _ _ _ rfl (row28_set _ _ _ _ hg) rfl) rfl (wordPost_some (below_setRow hB (Nat.le_refl _)) T.out rfl (VIs.flt 9218868437227405312))
 by_cases h16 : l = [43, 46, 73, 78, 70]
 ·have T : Hid (wordOf l = some ([33, 33, 102, 108, 111, 97, 116], .flt 9218868437227405312)) := Lib.hid (by rw [h16]; rfl)
  have e0 : s.toList.isEmpty = false := by rw [HST.out, h16]; rfl
  have e1 : (s.toList == [126]) = false := by rw [HST.out, h16]; decide
  have e2 : (s.toList == [110, 117, 108, 108]) = false := by rw [HST.out, h16]; decide
  have e3 : (s.toList == [78, 117, 108, 108]) = false := by rw [HST.out, h16]; decide
  have e4 : (s.toList == [78, 85, 76, 76]) = false := by rw [HST.out, h16]; decide
  have e5 : (s.toList == [116, 114, 117, 101]) = false := by rw [HST.out, h16]; decide
  have e6 : (s.toList == [84, 114, 117, 101]) = false := by rw [HST.out, h16]; decide
  have e7 : (s.toList == [84, 82, 85, 69]) = false := by rw [HST.out, h16]; decide
  have e8 : (s.toList == [102, 97, 108, 115, 101]) = false := by rw [HST.out, h16]; decide
  have e9 : (s.toList == [70, 97, 108, 115, 101]) = false := by rw [HST.out, h16]; decide
  have e10 : (s.toList == [70, 65, 76, 83, 69]) = false := by rw [HST.out, h16]; decide
  have e11 : (s.toList == [46, 105, 110, 102]) = false := by rw [HST.out, h16]; decide
  have e12 : (s.toList == [46, 73, 110, 102]) = false := by rw [HST.out, h16]; decide
  have e13 : (s.toList == [46, 73, 78, 70]) = false := by rw [HST.out, h16]; decide
  have e14 : (s.toList == [43, 46, 105, 110, 102]) = false := by rw [HST.out, h16]; decide
  have e15 : (s.toList == [43, 46, 73, 110, 102]) = false := by rw [HST.out, h16]; decide
  have e16 : (s.toList == [43, 46, 73, 78, 70]) = true := by rw [HST.out, h16]; decide
  clear HST h0 h1 h2 h3 h4 h5 h6 h7 h8 h9 h10 h11 h12 h13 h14 h15 h16
  go_enter Tryz.func25, Tryz.ntmps25
  go_wp2_with fail
  refine (inf_pos _).mono ?_
  rintro e w' ⟨rfl, rfl⟩
  go_wp2_with fail
  refine (floatOf_any 9218868437227405312 _).mono ?_
  rintro e w' ⟨rfl, hb⟩
  have hg := hg_below hb (by simp) (heap_alloc_new w (.cells z28 28 (0, 0)))
  have hB : Below w.heap.size w w' := ((Below.refl _ _).alloc (Nat.le_refl _) _).trans (hb.mono (by simp))
  clear hb
  go_wp2_with (refine store28 rfl _ _ rfl _ _ rfl rfl (by rfl) (by rfl) 28 _ hg (by rfl) ?_)
  exact bodyPost_ret (v := .tuple #[.string ⟨#[33, 33, 102, 108, 111, 97, 116]⟩, .agg (vCells 4 false 0 0 9218868437227405312 ⟨#[]⟩ 0 0 0 0 0 0 0 0), .bool true]) (results_x28x Tryz.results25 _ _ _ _ _ _ rfl (row28_set _ _ _ _ hg) rfl) rfl (wordPost_some (below_setRow hB (Nat.le_refl _)) T.out rfl (VIs.flt 9218868437227405312))
 by_cases h17 : l = [45, 46, 105, 110, 102]
 ·have T : Hid (wordOf l = some ([33, 33, 102, 108, 111, 97, 116], .flt 18442240474082181120)) := Lib.hid (by rw [h17]; rfl)
  have e0 : s.toList.isEmpty = false := by rw [HST.out, h17]; rfl
  have e1 : (s.toList == [126]) = false := by rw [HST.out, h17]; decide
  have e2 : (s.toList == [110, 117, 108, 108]) = false := by rw [HST.out, h17]; decide
  have e3 : (s.toList == [78, 117, 108, 108]) = false := by rw [HST.out, h17]; decide
  have e4 : (s.toList == [78, 85, 76, 76]) = false := by rw [HST.out, h17]; decide
  have e5 : (s.toList == [116, 114, 117, 101]) = false := by rw [HST.out, h17]; decide
  have e6 : (s.toList == [84, 114, 117, 101]) = false := by rw [HST.out, h17]; decide
  have e7 : (s.toList == [84, 82, 85, 69]) = false := by rw [HST.out, h17]; decide
  have e8 : (s.toList == [102, 97, 108, 115, 101]) = false := by rw [HST.out, h17]; decide
  have e9 : (s.toList == [70, 97, 108, 115, 101]) = false := by rw [HST.out, h17]; decide
  have e10 : (s.toList == [70, 65, 76, 83, 69]) = false := by rw [HST.out, h17]; decide
  have e11 : (s.toList == [46, 105, 110, 102]) = false := by rw [HST.out, h17]; decide
  have e12 : (s.toList == [46, 73, 110, 102]) = false := by rw [HST.out, h17]; decide
  have e13 : (s.toList == [46, 73, 78, 70]) = false := by rw [HST.out, h17]; decide
  have e14 : (s.toList == [43, 46, 105, 110, 102]) = false := by rw [HST.out, h17]; decide
  have e15 : (s.toList == [43, 46, 73, 110, 102]) = false := by rw [HST.out, h17]; decide
  have e16 : (s.toList == [43, 46, 73, 78, 70]) = false := by rw [HST.out, h17]; decide
  have e17 : (s.toList == [45, 46, 105, 110, 102]) = true := by rw [HST.out, h17]; decide
  clear HST h0 h1 h2 h3 h4 h5 h6 h7 h8 h9 h10 h11 h12 h13 h14 h15 h16 h17
  go_enter Tryz.func25, Tryz.ntmps25
  go_wp2_with fail
  refine (inf_neg _).mono ?_
  rintro e w' ⟨rfl, rfl⟩
  go_wp2_with fail
  refine (floatOf_any 18442240474082181120 _).mono ?_
  rintro e w' ⟨rfl, hb⟩
  have hg := hg_below hb (by simp) (heap_alloc_new w (.cells z28 28 (0, 0)))
  have hB : Below w.heap.size w w' := ((Below.refl _ _).alloc (Nat.le_refl _) _).trans (hb.mono (by simp))
  clear hb
  go_wp2_with (refine store28 rfl _ _ rfl _ _ rfl rfl (by rfl) (by rfl) 28 _ hg (by rfl) ?_)
  exact bodyPost_ret (v := .tuple #[.string ⟨#[33, 33, 102, 108, 111, 97, 116]⟩, .agg (vCells 4 false 0 0 18442240474082181120 ⟨#[]⟩ 0 0 0 0 0 0 0 0), .bool true]) (results_x28x Tryz.results25 _ _ _ _ _ _ rfl (row28_set _ _ _ _ hg) rfl) rfl (wordPost_some (below_setRow hB (Nat.le_refl _)) T.out rfl (VIs.flt 18442240474082181120))
 by_cases h18 : l = [45, 46, 73, 110, 102]
 ·have T : Hid (wordOf l = some ([33, 33, 102, 108, 111, 97, 116], .flt 18442240474082181120)) := Lib.hid (by rw [h18]; rfl)
  have e0 : s.toList.isEmpty = false := by rw [HST.out, h18]; rfl
  have e1 : (s.toList == [126]) = false := by rw [HST.out, h18]; decide
  have e2 : (s.toList == [110, 117, 108, 108]) = false := by rw [HST.out, h18]; decide
  have e3 : (s.toList == [78, 117, 108, 108]) = false := by rw [HST.out, h18]; decide
  have e4 : (s.toList == [78, 85, 76, 76]) = false := by rw [HST.out, h18]; decide
  have e5 : (s.toList == [116, 114, 117, 101]) = false := by rw [HST.out, h18]; decide
  have e6 : (s.toList == [84, 114, 117, 101]) = false := by rw [HST.out, h18]; decide
  have e7 : (s.toList == [84, 82, 85, 69]) = false := by rw [HST.out, h18]; decide
  have e8 : (s.toList == [102, 97, 108, 115, 101]) = false := by rw [HST.out, h18]; decide
  have e9 : (s.toList == [70, 97, 108, 115, 101]) = false := by rw [HST.out, h18]; decide
  have e10 : (s.toList == [70, 65, 76, 83, 69]) = false := by rw [HST.out, h18]; decide
  have e11 : (s.toList == [46, 105, 110, 102]) = false := by rw [HST.out, h18]; decide
  have e12 : (s.toList == [46, 73, 110, 102]) = false := by rw [HST.out, h18]; decide
  have e13 : (s.toList == [46, 73, 78, 70]) = false := by rw [HST.out, h18]; decide
  have e14 : (s.toList == [43, 46, 105, 110, 102]) = false := by rw [HST.out, h18]; decide
  have e15 : (s.toList == [43, 46, 73, 110, 102]) = false := by rw [HST.out, h18]; decide
  have e16 : (s.toList == [43, 46, 73, 78, 70]) = false := by rw [HST.out, h18]; decide
  have e17 : (s.toList == [45, 46, 105, 110, 102]) = false := by rw [HST.out, h18]; decide
  have e18 : (s.toList == [45, 46, 73, 110, 102]) = true := by rw [HST.out, h18]; decide
  clear HST h0 h1 h2 h3 h4 h5 h6 h7 h8 h9 h10 h11 h12 h13 h14 h15 h16 h17 h18
  go_enter Tryz.func25, Tryz.ntmps25
  go_wp2_with fail
  refine (inf_neg _).mono ?_
  rintro e w' ⟨rfl, rfl⟩
  go_wp2_with fail
  refine (floatOf_any 18442240474082181120 _).mono ?_
  rintro e w' ⟨rfl, hb⟩
  have hg := hg_below hb (by simp) (heap_alloc_new w (.cells z28 28 (0, 0)))
  have hB : Below w.heap.size w w' := ((Below.refl _ _).alloc (Nat.le_refl _) _).trans (hb.mono (by simp))
  clear hb
  go_wp2_with (refine store28 rfl _ _ rfl _ _ rfl rfl (by rfl) (by rfl) 28 _ hg (by rfl) ?_)
  exact bodyPost_ret (v := .tuple #[.string ⟨#[33, 33, 102, 108, 111, 97, 116]⟩, .agg (vCells 4 false 0 0 18442240474082181120 ⟨#[]⟩ 0 0 0 0 0 0 0 0), .bool true]) (results_x28x Tryz.results25 _ _ _ _ _ _ rfl (row28_set _ _ _ _ hg) rfl) rfl (wordPost_some (below_setRow hB (Nat.le_refl _)) T.out rfl (VIs.flt 18442240474082181120))
 by_cases h19 : l = [45, 46, 73, 78, 70]
 ·have T : Hid (wordOf l = some ([33, 33, 102, 108, 111, 97, 116], .flt 18442240474082181120)) := Lib.hid (by rw [h19]; rfl)
  have e0 : s.toList.isEmpty = false := by rw [HST.out, h19]; rfl
  have e1 : (s.toList == [126]) = false := by rw [HST.out, h19]; decide
  have e2 : (s.toList == [110, 117, 108, 108]) = false := by rw [HST.out, h19]; decide
  have e3 : (s.toList == [78, 117, 108, 108]) = false := by rw [HST.out, h19]; decide
  have e4 : (s.toList == [78, 85, 76, 76]) = false := by rw [HST.out, h19]; decide
  have e5 : (s.toList == [116, 114, 117, 101]) = false := by rw [HST.out, h19]; decide
  have e6 : (s.toList == [84, 114, 117, 101]) = false := by rw [HST.out, h19]; decide
  have e7 : (s.toList == [84, 82, 85, 69]) = false := by rw [HST.out, h19]; decide
  have e8 : (s.toList == [102, 97, 108, 115, 101]) = false := by rw [HST.out, h19]; decide
  have e9 : (s.toList == [70, 97, 108, 115, 101]) = false := by rw [HST.out, h19]; decide
  have e10 : (s.toList == [70, 65, 76, 83, 69]) = false := by rw [HST.out, h19]; decide
  have e11 : (s.toList == [46, 105, 110, 102]) = false := by rw [HST.out, h19]; decide
  have e12 : (s.toList == [46, 73, 110, 102]) = false := by rw [HST.out, h19]; decide
  have e13 : (s.toList == [46, 73, 78, 70]) = false := by rw [HST.out, h19]; decide
  have e14 : (s.toList == [43, 46, 105, 110, 102]) = false := by rw [HST.out, h19]; decide
  have e15 : (s.toList == [43, 46, 73, 110, 102]) = false := by rw [HST.out, h19]; decide
  have e16 : (s.toList == [43, 46, 73, 78, 70]) = false := by rw [HST.out, h19]; decide
  have e17 : (s.toList == [45, 46, 105, 110, 102]) = false := by rw [HST.out, h19]; decide
  have e18 : (s.toList == [45, 46, 73, 110, 102]) = false := by rw [HST.out, h19]; decide
  have e19 : (s.toList == [45, 46, 73, 78, 70]) = true := by rw [HST.out, h19]; decide
  clear HST h0 h1 h2 h3 h4 h5 h6 h7 h8 h9 h10 h11 h12 h13 h14 h15 h16 h17 h18 h19
  go_enter Tryz.func25, Tryz.ntmps25
  go_wp2_with fail
  refine (inf_neg _).mono ?_
  rintro e w' ⟨rfl, rfl⟩
  go_wp2_with fail
  refine (floatOf_any 18442240474082181120 _).mono ?_
  rintro e w' ⟨rfl, hb⟩
  have hg := hg_below hb (by simp) (heap_alloc_new w (.cells z28 28 (0, 0)))
  have hB : Below w.heap.size w w' := ((Below.refl _ _).alloc (Nat.le_refl _) _).trans (hb.mono (by simp))
  clear hb
  go_wp2_with (refine store28 rfl _ _ rfl _ _ rfl rfl (by rfl) (by rfl) 28 _ hg (by rfl) ?_)
  exact bodyPost_ret (v := .tuple #[.string ⟨#[33, 33, 102, 108, 111, 97, 116]⟩, .agg (vCells 4 false 0 0 18442240474082181120 ⟨#[]⟩ 0 0 0 0 0 0 0 0), .bool true]) (results_x28x Tryz.results25 _ _ _ _ _ _ rfl (row28_set _ _ _ _ hg) rfl) rfl (wordPost_some (below_setRow hB (Nat.le_refl _)) T.out rfl (VIs.flt 18442240474082181120))
 by_cases h20 : l = [46, 110, 97, 110]
 ·have T : Hid (wordOf l = some ([33, 33, 102, 108, 111, 97, 116], .flt 9221120237041090561)) := Lib.hid (by rw [h20]; rfl)
  have e0 : s.toList.isEmpty = false := by rw [HST.out, h20]; rfl
  have e1 : (s.toList == [126]) = false := by rw [HST.out, h20]; decide
  have e2 : (s.toList == [110, 117, 108, 108]) = false := by rw [HST.out, h20]; decide
  have e3 : (s.toList == [78, 117, 108, 108]) = false := by rw [HST.out, h20]; decide
  have e4 : (s.toList == [78, 85, 76, 76]) = false := by rw [HST.out, h20]; decide
  have e5 : (s.toList == [116, 114, 117, 101]) = false := by rw [HST.out, h20]; decide
  have e6 : (s.toList == [84, 114, 117, 101]) = false := by rw [HST.out, h20]; decide
  have e7 : (s.toList == [84, 82, 85, 69]) = false := by rw [HST.out, h20]; decide
  have e8 : (s.toList == [102, 97, 108, 115, 101]) = false := by rw [HST.out, h20]; decide
  have e9 : (s.toList == [70, 97, 108, 115, 101]) = false := by rw [HST.out, h20]; decide
  have e10 : (s.toList == [70, 65, 76, 83, 69]) = false := by rw [HST.out, h20]; decide
  have e11 : (s.toList == [46, 105, 110, 102]) = false := by rw [HST.out, h20]; decide
  have e12 : (s.toList == [46, 73, 110, 102]) = false := by rw [HST.out, h20]; decide
  have e13 : (s.toList == [46, 73, 78, 70]) = false := by rw [HST.out, h20]; decide
  have e14 : (s.toList == [43, 46, 105, 110, 102]) = false := by rw [HST.out, h20]; decide
  have e15 : (s.toList == [43, 46, 73, 110, 102]) = false := by rw [HST.out, h20]; decide
  have e16 : (s.toList == [43, 46, 73, 78, 70]) = false := by rw [HST.out, h20]; decide
  have e17 : (s.toList == [45, 46, 105, 110, 102]) = false := by rw [HST.out, h20]; decide
  have e18 : (s.toList == [45, 46, 73, 110, 102]) = false := by rw [HST.out, h20]; decide
  have e19 : (s.toList == [45, 46, 73, 78, 70]) = false := by rw [HST.out, h20]; decide
  have e20 : (s.toList == [46, 110, 97, 110]) = true := by rw [HST.out, h20]; decide
  clear HST h0 h1 h2 h3 h4 h5 h6 h7 h8 h9 h10 h11 h12 h13 h14 h15 h16 h17 h18 h19 h20
  go_enter Tryz.func25, Tryz.ntmps25
  go_wp2_with fail
  refine (nan_any _).mono ?_
  rintro e w' ⟨rfl, rfl⟩
  go_wp2_with fail
  refine (floatOf_any 9221120237041090561 _).mono ?_
  rintro e w' ⟨rfl, hb⟩
  have hg := hg_below hb (by simp) (heap_alloc_new w (.cells z28 28 (0, 0)))
  have hB : Below w.heap.size w w' := ((Below.refl _ _).alloc (Nat.le_refl _) _).trans (hb.mono (by simp))
  clear hb
  go_wp2_with (refine store28 rfl _ _ rfl _ _ rfl rfl (by rfl) (by rfl) 28 _ hg (by rfl) ?_)
  exact bodyPost_ret (v := .tuple #[.string ⟨#[33, 33, 102, 108, 111, 97, 116]⟩, .agg (vCells 4 false 0 0 9221120237041090561 ⟨#[]⟩ 0 0 0 0 0 0 0 0), .bool true]) (results_x28x Tryz.results25 _ _ _ _ _ _ rfl (row28_set _ _ _ _ hg) rfl) rfl (wordPost_some (below_setRow hB (Nat.le_refl _)) T.out rfl (VIs.flt 9221120237041090561))
 by_cases h21 : l = [46, 78, 97, 78]
 ·have T : Hid (wordOf l = some ([33, 33, 102, 108, 111, 97, 116], .flt 9221120237041090561)) := Lib.hid (by rw [h21]; rfl)
  have e0 : s.toList.isEmpty = false := by rw [HST.out, h21]; rfl
  have e1 : (s.toList == [126]) = false := by rw [HST.out, h21]; decide
  have e2 : (s.toList == [110, 117, 108, 108]) = false := by rw [HST.out, h21]; decide
  have e3 : (s.toList == [78, 117, 108, 108]) = false := by rw [HST.out, h21]; decide
  have e4 : (s.toList == [78, 85, 76, 76]) = false := by rw [HST.out, h21]; decide
  have e5 : (s.toList == [116, 114, 117, 101]) = false := by rw [HST.out, h21]; decide
  have e6 : (s.toList == [84, 114, 117, 101]) = false := by rw [HST.out, h21]; decide
  have e7 : (s.toList == [84, 82, 85, 69]) = false := by rw [HST.out, h21]; decide
  have e8 : (s.toList == [102, 97, 108, 115, 101]) = false := by rw [HST.out, h21]; decide
  have e9 : (s.toList == [70, 97, 108, 115, 101]) = false := by rw [HST.out, h21]; decide
  have e10 : (s.toList == [70, 65, 76, 83, 69]) = false := by rw [HST.out, h21]; decide
  have e11 : (s.toList == [46, 105, 110, 102]) = false := by rw [HST.out, h21]; decide
  have e12 : (s.toList == [46, 73, 110, 102]) = false := by rw [HST.out, h21]; decide
  have e13 : (s.toList == [46, 73, 78, 70]) = false := by rw [HST.out, h21]; decide
  have e14 : (s.toList == [43, 46, 105, 110, 102]) = false := by rw [HST.out, h21]; decide
  have e15 : (s.toList == [43, 46, 73, 110, 102]) = false := by rw [HST.out, h21]; decide
  have e16 : (s.toList == [43, 46, 73, 78, 70]) = false := by rw [HST.out, h21]; decide
  have e17 : (s.toList == [45, 46, 105, 110, 102]) = false := by rw [HST.out, h21]; decide
  have e18 : (s.toList == [45, 46, 73, 110, 102]) = false := by rw [HST.out, h21]; decide
  have e19 : (s.toList == [45, 46, 73, 78, 70]) = false := by rw [HST.out, h21]; decide
  have e20 : (s.toList == [46, 110, 97, 110]) = false := by rw [HST.out, h21]; decide
  have e21 : (s.toList == [46, 78, 97, 78]) = true := by rw [HST.out, h21]; decide
  clear HST h0 h1 h2 h3 h4 h5 h6 h7 h8 h9 h10 h11 h12 h13 h14 h15 h16 h17 h18 h19 h20 h21
  go_enter Tryz.func25, Tryz.ntmps25
  go_wp2_with fail
  refine (nan_any _).mono ?_
  rintro e w' ⟨rfl, rfl⟩
  go_wp2_with fail
  refine (floatOf_any 9221120237041090561 _).mono ?_
  rintro e w' ⟨rfl, hb⟩
  have hg := hg_below hb (by simp) (heap_alloc_new w (.cells z28 28 (0, 0)))
  have hB : Below w.heap.size w w' := ((Below.refl _ _).alloc (Nat.le_refl _) _).trans (hb.mono (by simp))
  clear hb
  go_wp2_with (refine store28 rfl _ _ rfl _ _ rfl rfl (by rfl) (by rfl) 28 _ hg (by rfl) ?_)
  exact bodyPost_ret (v := .tuple #[.string ⟨#[33, 33, 102, 108, 111, 97, 116]⟩, .agg (vCells 4 false 0 0 9221120237041090561 ⟨#[]⟩ 0 0 0 0 0 0 0 0), .bool true]) (results_x28x Tryz.results25 _ _ _ _ _ _ rfl (row28_set _ _ _ _ hg) rfl) rfl (wordPost_some (below_setRow hB (Nat.le_refl _)) T.out rfl (VIs.flt 9221120237041090561))
 by_cases h22 : l = [46, 78, 65, 78]
 ·have T : Hid (wordOf l = some ([33, 33, 102, 108, 111, 97, 116], .flt 9221120237041090561)) := Lib.hid (by rw [h22]; rfl)
  have e0 : s.toList.isEmpty = false := by rw [HST.out, h22]; rfl
  have e1 : (s.toList == [126]) = false := by rw [HST.out, h22]; decide
  have e2 : (s.toList == [110, 117, 108, 108]) = false := by rw [HST.out, h22]; decide
  have e3 : (s.toList == [78, 117, 108, 108]) = false := by rw [HST.out, h22]; decide
  have e4 : (s.toList == [78, 85, 76, 76]) = false := by rw [HST.out, h22]; decide
  have e5 : (s.toList == [116, 114, 117, 101]) = false := by rw [HST.out, h22]; decide
  have e6 : (s.toList == [84, 114, 117, 101]) = false := by rw [HST.out, h22]; decide
  have e7 : (s.toList == [84, 82, 85, 69]) = false := by rw [HST.out, h22]; decide
  have e8 : (s.toList == [102, 97, 108, 115, 101]) = false := by rw [HST.out, h22]; decide
  have e9 : (s.toList == [70, 97, 108, 115, 101]) = false := by rw [HST.out, h22]; decide
  have e10 : (s.toList == [70, 65, 76, 83, 69]) = false := by rw [HST.out, h22]; decide
  have e11 : (s.toList == [46, 105, 110, 102]) = false := by rw [HST.out, h22]; decide
  have e12 : (s.toList == [46, 73, 110, 102]) = false := by rw [HST.out, h22]; decide
  have e13 : (s.toList == [46, 73, 78, 70]) = false := by rw [HST.out, h22]; decide
  have e14 : (s.toList == [43, 46, 105, 110, 102]) = false := by rw [HST.out, h22]; decide
  have e15 : (s.toList == [43, 46, 73, 110, 102]) = false := by rw [HST.out, h22]; decide
  have e16 : (s.toList == [43, 46, 73, 78, 70]) = false := by rw [HST.out, h22]; decide
  have e17 : (s.toList == [45, 46, 105, 110, 102]) = false := by rw [HST.out, h22]; decide
  have e18 : (s.toList == [45, 46, 73, 110, 102]) = false := by rw [HST.out, h22]; decide
  have e19 : (s.toList == [45, 46, 73, 78, 70]) = false := by rw [HST.out, h22]; decide
  have e20 : (s.toList == [46, 110, 97, 110]) = false := by rw [HST.out, h22]; decide
  have e21 : (s.toList == [46, 78, 97, 78]) = false := by rw [HST.out, h22]; decide
  have e22 : (s.toList == [46, 78, 65, 78]) = true := by rw [HST.out, h22]; decide
  clear HST h0 h1 h2 h3 h4 h5 h6 h7 h8 h9 h10 h11 h12 h13 h14 h15 h16 h17 h18 h19 h20 h21 h22
  go_enter Tryz.func25, Tryz.ntmps25
  go_wp2_with fail
  refine (nan_any _).mono ?_
  rintro e w' ⟨rfl, rfl⟩
  go_wp2_with fail
  refine (floatOf_any 9221120237041090561 _).mono ?_
  rintro e w' ⟨rfl, hb⟩
  have hg := hg_below hb (by simp) (heap_alloc_new w (.cells z28 28 (0, 0)))
  have hB : Below w.heap.size w w' := ((Below.refl _ _).alloc (Nat.le_refl _) _).trans (hb.mono (by simp))
  clear hb
  go_wp2_with (refine store28 rfl _ _ rfl _ _ rfl rfl (by rfl) (by rfl) 28 _ hg (by rfl) ?_)
  exact bodyPost_ret (v := .tuple #[.string ⟨#[33, 33, 102, 108, 111, 97, 116]⟩, .agg (vCells 4 false 0 0 9221120237041090561 ⟨#[]⟩ 0 0 0 0 0 0 0 0), .bool true]) (results_x28x Tryz.results25 _ _ _ _ _ _ rfl (row28_set _ _ _ _ hg) rfl) rfl (wordPost_some (below_setRow hB (Nat.le_refl _)) T.out rfl (VIs.flt 9221120237041090561))
 have T : Hid (wordOf l = none) := Lib.hid (by unfold wordOf; rw [if_neg (by simp [h0, h1, h2, h3, h4])]; rw [if_neg (by simp [h5, h6, h7])]; rw [if_neg (by simp [h8, h9, h10])]; rw [if_neg (by simp [h11, h12, h13, h14, h15, h16])]; rw [if_neg (by simp [h17, h18, h19])]; rw [if_neg (by simp [h20, h21, h22])])
 have e0 : s.toList.isEmpty = false := by rw [HST.out]; cases l with | nil => exact absurd rfl h0 | cons a b => rfl
 have e1 : (s.toList == [126]) = false := by rw [HST.out]; exact beq_false_of_ne h1
 have e2 : (s.toList == [110, 117, 108, 108]) = false := by rw [HST.out]; exact beq_false_of_ne h2
 have e3 : (s.toList == [78, 117, 108, 108]) = false := by rw [HST.out]; exact beq_false_of_ne h3
 have e4 : (s.toList == [78, 85, 76, 76]) = false := by rw [HST.out]; exact beq_false_of_ne h4
 have e5 : (s.toList == [116, 114, 117, 101]) = false := by rw [HST.out]; exact beq_false_of_ne h5
 have e6 : (s.toList == [84, 114, 117, 101]) = false := by rw [HST.out]; exact beq_false_of_ne h6
 have e7 : (s.toList == [84, 82, 85, 69]) = false := by rw [HST.out]; exact beq_false_of_ne h7
 have e8 : (s.toList == [102, 97, 108, 115, 101]) = false := by rw [HST.out]; exact beq_false_of_ne h8
 have e9 : (s.toList == [70, 97, 108, 115, 101]) = false := by rw [HST.out]; exact beq_false_of_ne h9
 have e10 : (s.toList == [70, 65, 76, 83, 69]) = false := by rw [HST.out]; exact beq_false_of_ne h10
 have e11 : (s.toList == [46, 105, 110, 102]) = false := by rw [HST.out]; exact beq_false_of_ne h11
 have e12 : (s.toList == [46, 73, 110, 102]) = false := by rw [HST.out]; exact beq_false_of_ne h12
 have e13 : (s.toList == [46, 73, 78, 70]) = false := by rw [HST.out]; exact beq_false_of_ne h13
 have e14 : (s.toList == [43, 46, 105, 110, 102]) = false := by rw [HST.out]; exact beq_false_of_ne h14
 have e15 : (s.toList == [43, 46, 73, 110, 102]) = false := by rw [HST.out]; exact beq_false_of_ne h15
 have e16 : (s.toList == [43, 46, 73, 78, 70]) = false := by rw [HST.out]; exact beq_false_of_ne h16
 have e17 : (s.toList == [45, 46, 105, 110, 102]) = false := by rw [HST.out]; exact beq_false_of_ne h17
 have e18 : (s.toList == [45, 46, 73, 110, 102]) = false := by rw [HST.out]; exact beq_false_of_ne h18
 have e19 : (s.toList == [45, 46, 73, 78, 70]) = false := by rw [HST.out]; exact beq_false_of_ne h19
 have e20 : (s.toList == [46, 110, 97, 110]) = false := by rw [HST.out]; exact beq_false_of_ne h20
 have e21 : (s.toList == [46, 78, 97, 78]) = false := by rw [HST.out]; exact beq_false_of_ne h21
 have e22 : (s.toList == [46, 78, 65, 78]) = false := by rw [HST.out]; exact beq_false_of_ne h22
 clear HST h0 h1 h2 h3 h4 h5 h6 h7 h8 h9 h10 h11 h12 h13 h14 h15 h16 h17 h18 h19 h20 h21 h22
 go_enter Tryz.func25, Tryz.ntmps25
 go_wp2_with (refine store28 rfl _ _ rfl _ _ rfl rfl (by rfl) (by rfl) 28 _ (heap_alloc_new _ _) (by rfl) ?_)
 exact bodyPost_ret (v := .tuple #[.string ⟨#[]⟩, .agg z28, .bool false]) (results_x28x Tryz.results25 _ _ _ _ _ _ rfl (row28_set _ _ _ _ (heap_alloc_new _ _)) rfl) rfl ⟨below_setRow ((Below.refl _ _).alloc (Nat.le_refl _) _) (Nat.le_refl _), .inr ⟨T.out, rfl⟩⟩
end Go.Proofs.YtillamhoakohdaaGreatDoor

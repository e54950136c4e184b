/-
  Walks: values as package impl tells them.
-/
import Derived.Test.YtillamhoakohdaaGreatDoorM14
import Derived.Test.YtillamhoakohdaaGreatDoorM15
set_option linter.unusedVariables false
set_option linter.unusedSimpArgs false
namespace Go.Proofs.YtillamhoakohdaaGreatDoor
open Go.RowKit

def TellPost (bl : Nat) (p : PV) (w : World) (e : Ending) (w' : World) : Prop := Below w.heap.size (w.setCell ⟨bl, 0, none⟩ (.int .i64 999)) w' ∧ ∃ v, VIs p v ∧ e = .returned v
theorem tell_below (bl : Nat) (w : World) (cs : Array Value) (v : Value) (ty : TypeId) (o : Obj) (hl : w.heap[bl]? = some (.cells cs ty (0, 0))) :
  Below w.heap.size (w.setCell ⟨bl, 0, none⟩ v) ((w.alloc o).setCell ⟨bl, 0, none⟩ v) := by
 refine ⟨rfl, rfl, rfl, by simp [World.setCell], fun k hk => ?_⟩
 by_cases h : k = bl
 ·subst h
  rw [heap_setCell_same _ _ _ _ _ _ hl, heap_setCell_same _ _ _ _ _ _ (hg_alloc hl)]
 ·rw [heap_setCell_other _ _ _ _ (by simpa using h), heap_setCell_other _ _ _ _ (by simpa using h)]
  show (w.heap.push o)[k]? = w.heap[k]?
  rw [Array.getElem?_push, if_neg (Nat.ne_of_lt hk)]
@[go_sem] theorem as4_4 (v : Value) (w : World) : (Instr.typeAssert (.iface 4 v) 20 4 true).run Tryz.prog w = .ok (.tuple #[v, .bool true]) w := by kernel_rfl
@[go_sem] theorem as3_4 (v : Value) (w : World) : (Instr.typeAssert (.iface 3 v) 20 4 true).run Tryz.prog w = .ok (.tuple #[.bool false, .bool false]) w := by kernel_rfl
@[go_sem] theorem as23_4 (v : Value) (w : World) : (Instr.typeAssert (.iface 23 v) 20 4 true).run Tryz.prog w = .ok (.tuple #[.bool false, .bool false]) w := by kernel_rfl
@[go_sem] theorem as23_23 (v : Value) (w : World) : (Instr.typeAssert (.iface 23 v) 20 23 true).run Tryz.prog w = .ok (.tuple #[v, .bool true]) w := by kernel_rfl
@[go_sem] theorem as52_4 (v : Value) (w : World) : (Instr.typeAssert (.iface 52 v) 20 4 true).run Tryz.prog w = .ok (.tuple #[.bool false, .bool false]) w := by kernel_rfl
@[go_sem] theorem as52_3 (v : Value) (w : World) : (Instr.typeAssert (.iface 52 v) 20 3 true).run Tryz.prog w = .ok (.tuple #[.int .i64 0, .bool false]) w := by kernel_rfl
@[go_sem] theorem as52_2 (v : Value) (w : World) : (Instr.typeAssert (.iface 52 v) 20 2 true).run Tryz.prog w = .ok (.tuple #[.int .i64 0, .bool false]) w := by kernel_rfl
@[go_sem] theorem as52_23 (v : Value) (w : World) : (Instr.typeAssert (.iface 52 v) 20 23 true).run Tryz.prog w = .ok (.tuple #[.int .u64 0, .bool false]) w := by kernel_rfl
@[go_sem] theorem as52_52 (v : Value) (w : World) : (Instr.typeAssert (.iface 52 v) 20 52 true).run Tryz.prog w = .ok (.tuple #[v, .bool true]) w := by kernel_rfl
@[go_sem] theorem as9_4 (v : Value) (w : World) : (Instr.typeAssert (.iface 9 v) 20 4 true).run Tryz.prog w = .ok (.tuple #[.bool false, .bool false]) w := by kernel_rfl
@[go_sem] theorem as9_3 (v : Value) (w : World) : (Instr.typeAssert (.iface 9 v) 20 3 true).run Tryz.prog w = .ok (.tuple #[.int .i64 0, .bool false]) w := by kernel_rfl
@[go_sem] theorem as9_2 (v : Value) (w : World) : (Instr.typeAssert (.iface 9 v) 20 2 true).run Tryz.prog w = .ok (.tuple #[.int .i64 0, .bool false]) w := by kernel_rfl
@[go_sem] theorem as9_23 (v : Value) (w : World) : (Instr.typeAssert (.iface 9 v) 20 23 true).run Tryz.prog w = .ok (.tuple #[.int .u64 0, .bool false]) w := by kernel_rfl
@[go_sem] theorem as9_52 (v : Value) (w : World) : (Instr.typeAssert (.iface 9 v) 20 52 true).run Tryz.prog w = .ok (.tuple #[.float .f64 0, .bool false]) w := by kernel_rfl
@[go_sem] theorem as9_9 (v : Value) (w : World) : (Instr.typeAssert (.iface 9 v) 20 9 true).run Tryz.prog w = .ok (.tuple #[v, .bool true]) w := by kernel_rfl
set_option maxRecDepth 100000 in
set_option maxHeartbeats 1000000 in
theorem tell_bool (b : Bool) (bl : Nat) (w : World) (hl : w.heap[bl]? = some (.cells #[.int .i64 1000] 3 (0, 0))) : Calls Tryz.prog 12 #[.iface 4 (.bool b), .pointer (some ⟨bl, 0, none⟩)] w (TellPost bl (.bool b) w) := by
 have c0 := cellv hl 0 _ rfl
 have f0 := frozen_of_row _ _ 0 _ _ hl
 have hlt := lt_of_heap hl
 have hsz : (w.setCell ⟨bl, 0, none⟩ (.int .i64 999)).heap.size = w.heap.size := by simp
 have hn : ∀ o, ((w.setCell ⟨bl, 0, none⟩ (.int .i64 999)).alloc o).heap[w.heap.size]? = some o := fun o => by have := heap_alloc_new (w.setCell ⟨bl, 0, none⟩ (.int .i64 999)) o; rw [hsz] at this; exact this
 have hB : ∀ o, Below w.heap.size (w.setCell ⟨bl, 0, none⟩ (.int .i64 999)) ((w.setCell ⟨bl, 0, none⟩ (.int .i64 999)).alloc o) := fun o => (Below.refl _ _).alloc (Nat.le_of_eq hsz.symm) _
 have hn0 : ((w.alloc (.cells z28 28)).setCell ⟨bl, 0, none⟩ (.int .i64 999)).heap[w.heap.size]? = some (.cells z28 28 (0, 0)) := by rw [heap_setCell_other _ _ _ _ (by simp; omega)]; exact heap_alloc_new _ _
 clear hl hsz
 go_enter Tryz.func12, Tryz.ntmps12
 go_wp2_with (refine store28 rfl _ _ rfl _ (vCells 1 b 0 0 0 ⟨#[]⟩ 0 0 0 0 0 0 0 0) rfl rfl rfl rfl 28 _ hn0 rfl ?_)
 exact bodyPost_ret (v := .agg (vCells 1 b 0 0 0 ⟨#[]⟩ 0 0 0 0 0 0 0 0)) (results_28o Tryz.results12 _ _ _ _ _ _ rfl (hn _) rfl) rfl ⟨hB _, _, VIs.bool b, rfl⟩
set_option maxRecDepth 100000 in
set_option maxHeartbeats 1000000 in
theorem tell_int (i : Int) (bl : Nat) (w : World) (hl : w.heap[bl]? = some (.cells #[.int .i64 1000] 3 (0, 0))) : Calls Tryz.prog 12 #[.iface 3 (.int .i64 i), .pointer (some ⟨bl, 0, none⟩)] w (TellPost bl (.int i) w) := by
 have c0 := cellv hl 0 _ rfl
 have f0 := frozen_of_row _ _ 0 _ _ hl
 have hlt := lt_of_heap hl
 have hsz : (w.setCell ⟨bl, 0, none⟩ (.int .i64 999)).heap.size = w.heap.size := by simp
 have hn : ∀ o, ((w.setCell ⟨bl, 0, none⟩ (.int .i64 999)).alloc o).heap[w.heap.size]? = some o := fun o => by have := heap_alloc_new (w.setCell ⟨bl, 0, none⟩ (.int .i64 999)) o; rw [hsz] at this; exact this
 have hB : ∀ o, Below w.heap.size (w.setCell ⟨bl, 0, none⟩ (.int .i64 999)) ((w.setCell ⟨bl, 0, none⟩ (.int .i64 999)).alloc o) := fun o => (Below.refl _ _).alloc (Nat.le_of_eq hsz.symm) _
 have hn0 : ((w.alloc (.cells z28 28)).setCell ⟨bl, 0, none⟩ (.int .i64 999)).heap[w.heap.size]? = some (.cells z28 28 (0, 0)) := by rw [heap_setCell_other _ _ _ _ (by simp; omega)]; exact heap_alloc_new _ _
 clear hl hsz
 go_enter Tryz.func12, Tryz.ntmps12
 go_wp2_with (refine store28 rfl _ _ rfl _ (vCells 2 false i 0 0 ⟨#[]⟩ 0 0 0 0 0 0 0 0) rfl rfl rfl rfl 28 _ hn0 rfl ?_)
 exact bodyPost_ret (v := .agg (vCells 2 false i 0 0 ⟨#[]⟩ 0 0 0 0 0 0 0 0)) (results_28o Tryz.results12 _ _ _ _ _ _ rfl (hn _) rfl) rfl ⟨hB _, _, VIs.int i, rfl⟩
set_option maxRecDepth 100000 in
set_option maxHeartbeats 1000000 in
theorem tell_uint (i : Int) (bl : Nat) (w : World) (hl : w.heap[bl]? = some (.cells #[.int .i64 1000] 3 (0, 0))) : Calls Tryz.prog 12 #[.iface 23 (.int .u64 i), .pointer (some ⟨bl, 0, none⟩)] w (TellPost bl (.uint i) w) := by
 have c0 := cellv hl 0 _ rfl
 have f0 := frozen_of_row _ _ 0 _ _ hl
 have hlt := lt_of_heap hl
 have hsz : (w.setCell ⟨bl, 0, none⟩ (.int .i64 999)).heap.size = w.heap.size := by simp
 have hn : ∀ o, ((w.setCell ⟨bl, 0, none⟩ (.int .i64 999)).alloc o).heap[w.heap.size]? = some o := fun o => by have := heap_alloc_new (w.setCell ⟨bl, 0, none⟩ (.int .i64 999)) o; rw [hsz] at this; exact this
 have hB : ∀ o, Below w.heap.size (w.setCell ⟨bl, 0, none⟩ (.int .i64 999)) ((w.setCell ⟨bl, 0, none⟩ (.int .i64 999)).alloc o) := fun o => (Below.refl _ _).alloc (Nat.le_of_eq hsz.symm) _
 have hn0 : ((w.alloc (.cells z28 28)).setCell ⟨bl, 0, none⟩ (.int .i64 999)).heap[w.heap.size]? = some (.cells z28 28 (0, 0)) := by rw [heap_setCell_other _ _ _ _ (by simp; omega)]; exact heap_alloc_new _ _
 clear hl hsz
 go_enter Tryz.func12, Tryz.ntmps12
 go_wp2_with (refine store28 rfl _ _ rfl _ (vCells 3 false 0 i 0 ⟨#[]⟩ 0 0 0 0 0 0 0 0) rfl rfl rfl rfl 28 _ hn0 rfl ?_)
 exact bodyPost_ret (v := .agg (vCells 3 false 0 i 0 ⟨#[]⟩ 0 0 0 0 0 0 0 0)) (results_28o Tryz.results12 _ _ _ _ _ _ rfl (hn _) rfl) rfl ⟨hB _, _, VIs.uint i, rfl⟩
set_option maxRecDepth 100000 in
set_option maxHeartbeats 1000000 in
theorem tell_flt (i : Nat) (bl : Nat) (w : World) (hl : w.heap[bl]? = some (.cells #[.int .i64 1000] 3 (0, 0))) : Calls Tryz.prog 12 #[.iface 52 (.float .f64 i), .pointer (some ⟨bl, 0, none⟩)] w (TellPost bl (.flt i) w) := by
 have c0 := cellv hl 0 _ rfl
 have f0 := frozen_of_row _ _ 0 _ _ hl
 have hlt := lt_of_heap hl
 have hsz : (w.setCell ⟨bl, 0, none⟩ (.int .i64 999)).heap.size = w.heap.size := by simp
 have hn : ∀ o, ((w.setCell ⟨bl, 0, none⟩ (.int .i64 999)).alloc o).heap[w.heap.size]? = some o := fun o => by have := heap_alloc_new (w.setCell ⟨bl, 0, none⟩ (.int .i64 999)) o; rw [hsz] at this; exact this
 have hB : ∀ o, Below w.heap.size (w.setCell ⟨bl, 0, none⟩ (.int .i64 999)) ((w.setCell ⟨bl, 0, none⟩ (.int .i64 999)).alloc o) := fun o => (Below.refl _ _).alloc (Nat.le_of_eq hsz.symm) _
 have hn0 : ((w.alloc (.cells z28 28)).setCell ⟨bl, 0, none⟩ (.int .i64 999)).heap[w.heap.size]? = some (.cells z28 28 (0, 0)) := by rw [heap_setCell_other _ _ _ _ (by simp; omega)]; exact heap_alloc_new _ _
 clear hl hsz
 go_enter Tryz.func12, Tryz.ntmps12
 go_wp2_with (refine store28 rfl _ _ rfl _ (vCells 4 false 0 0 (i : Int) ⟨#[]⟩ 0 0 0 0 0 0 0 0) rfl rfl rfl rfl 28 _ hn0 rfl ?_)
 exact bodyPost_ret (v := .agg (vCells 4 false 0 0 (i : Int) ⟨#[]⟩ 0 0 0 0 0 0 0 0)) (results_28o Tryz.results12 _ _ _ _ _ _ rfl (hn _) rfl) rfl ⟨hB _, _, VIs.flt i, rfl⟩
set_option maxRecDepth 100000 in
set_option maxHeartbeats 1000000 in
theorem tell_txt (s : ByteArray) (bl : Nat) (w : World) (hl : w.heap[bl]? = some (.cells #[.int .i64 1000] 3 (0, 0))) : Calls Tryz.prog 12 #[.iface 9 (.string s), .pointer (some ⟨bl, 0, none⟩)] w (TellPost bl (.txt s.data.toList) w) := by
 have c0 := cellv hl 0 _ rfl
 have f0 := frozen_of_row _ _ 0 _ _ hl
 have hlt := lt_of_heap hl
 have hsz : (w.setCell ⟨bl, 0, none⟩ (.int .i64 999)).heap.size = w.heap.size := by simp
 have hn : ∀ o, ((w.setCell ⟨bl, 0, none⟩ (.int .i64 999)).alloc o).heap[w.heap.size]? = some o := fun o => by have := heap_alloc_new (w.setCell ⟨bl, 0, none⟩ (.int .i64 999)) o; rw [hsz] at this; exact this
 have hB : ∀ o, Below w.heap.size (w.setCell ⟨bl, 0, none⟩ (.int .i64 999)) ((w.setCell ⟨bl, 0, none⟩ (.int .i64 999)).alloc o) := fun o => (Below.refl _ _).alloc (Nat.le_of_eq hsz.symm) _
 have hn0 : ((w.alloc (.cells z28 28)).setCell ⟨bl, 0, none⟩ (.int .i64 999)).heap[w.heap.size]? = some (.cells z28 28 (0, 0)) := by rw [heap_setCell_other _ _ _ _ (by simp; omega)]; exact heap_alloc_new _ _
 clear hl hsz
 go_enter Tryz.func12, Tryz.ntmps12
 go_wp2_with (refine store28 rfl _ _ rfl _ (vCells 5 false 0 0 0 s 0 0 0 0 0 0 0 0) rfl rfl rfl rfl 28 _ hn0 rfl ?_)
 exact bodyPost_ret (v := .agg (vCells 5 false 0 0 0 s 0 0 0 0 0 0 0 0)) (results_28o Tryz.results12 _ _ _ _ _ _ rfl (hn _) rfl) rfl ⟨hB _, _, VIs.txt s _ rfl, rfl⟩
end Go.Proofs.YtillamhoakohdaaGreatDoor

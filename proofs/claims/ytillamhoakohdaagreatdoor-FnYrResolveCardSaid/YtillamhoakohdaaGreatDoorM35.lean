/-
  Walks: nothing, as package impl tells it.
-/
import Derived.Test.YtillamhoakohdaaGreatDoorM34
set_option linter.unusedVariables false
set_option linter.unusedSimpArgs false
namespace Go.Proofs.YtillamhoakohdaaGreatDoor
open Go.RowKit
@[go_sem] theorem asNil_4 (w : World) : (Instr.typeAssert .nilIface 20 4 true).run Tryz.prog w = .ok (.tuple #[.bool false, .bool false]) w := by kernel_rfl
@[go_sem] theorem asNil_3 (w : World) : (Instr.typeAssert .nilIface 20 3 true).run Tryz.prog w = .ok (.tuple #[.int .i64 0, .bool false]) w := by kernel_rfl
@[go_sem] theorem asNil_2 (w : World) : (Instr.typeAssert .nilIface 20 2 true).run Tryz.prog w = .ok (.tuple #[.int .i64 0, .bool false]) w := by kernel_rfl
@[go_sem] theorem asNil_23 (w : World) : (Instr.typeAssert .nilIface 20 23 true).run Tryz.prog w = .ok (.tuple #[.int .u64 0, .bool false]) w := by kernel_rfl
@[go_sem] theorem asNil_52 (w : World) : (Instr.typeAssert .nilIface 20 52 true).run Tryz.prog w = .ok (.tuple #[.float .f64 0, .bool false]) w := by kernel_rfl
@[go_sem] theorem asNil_9 (w : World) : (Instr.typeAssert .nilIface 20 9 true).run Tryz.prog w = .ok (.tuple #[.string ByteArray.empty, .bool false]) w := by kernel_rfl
@[go_sem] theorem asNil_60 (w : World) : (Instr.typeAssert .nilIface 20 60 true).run Tryz.prog w = .ok (.tuple #[.slice none 0 0, .bool false]) w := by kernel_rfl
@[go_sem] theorem asNil_61 (w : World) : (Instr.typeAssert .nilIface 20 61 true).run Tryz.prog w = .ok (.tuple #[.agg #[.int .i64 0, .int .i64 0, .int .i64 0, .int .i64 0, .int .i64 0, .int .i64 0, .int .i64 0, .int .i64 0], .bool false]) w := by kernel_rfl
@[go_sem] theorem asNil_62 (w : World) : (Instr.typeAssert .nilIface 20 62 true).run Tryz.prog w = .ok (.tuple #[.slice none 0 0, .bool false]) w := by kernel_rfl
@[go_sem] theorem asNil_64 (w : World) : (Instr.typeAssert .nilIface 20 64 true).run Tryz.prog w = .ok (.tuple #[.slice none 0 0, .bool false]) w := by kernel_rfl
@[go_sem] theorem asNil_67 (w : World) : (Instr.typeAssert .nilIface 20 67 true).run Tryz.prog w = .ok (.tuple #[.map none, .bool false]) w := by kernel_rfl
@[go_sem] theorem asNil_70 (w : World) : (Instr.typeAssert .nilIface 20 70 true).run Tryz.prog w = .ok (.tuple #[.map none, .bool false]) w := by kernel_rfl
set_option maxRecDepth 100000 in
set_option maxHeartbeats 4000000 in
theorem tell_nul (bl : Nat) (w : World) (hl : w.heap[bl]? = some (.cells #[.int .i64 1000] 3 (0, 0))) : Calls Tryz.prog 12 #[.nilIface, .pointer (some ⟨bl, 0, none⟩)] w (TellPost bl .nul w) := by
 have c0 := cellv hl 0 _ rfl
 have f0 := frozen_of_row _ _ 0 _ _ hl
 have hlt := lt_of_heap hl
 have HH := Lib.hid hl
 clear hl
 go_enter Tryz.func12, Tryz.ntmps12
 have hz : (w.setCell ⟨bl, 0, none⟩ (.int .i64 999)).heap.size = w.heap.size := by simp
 have hB1 : Below w.heap.size (w.setCell ⟨bl, 0, none⟩ (.int .i64 999)) ((w.setCell ⟨bl, 0, none⟩ (.int .i64 999)).alloc (.cells z28 28)) := (Below.refl _ _).alloc (Nat.le_of_eq hz.symm) _
 have hg1 : ((w.setCell ⟨bl, 0, none⟩ (.int .i64 999)).alloc (.cells z28 28)).heap[w.heap.size]? = some (.cells z28 28 (0, 0)) := by have := heap_alloc_new (w.setCell ⟨bl, 0, none⟩ (.int .i64 999)) (.cells z28 28); rw [hz] at this; exact this
 have HB1 := Lib.hid hB1
 have HG1 := Lib.hid hg1
 clear hB1 hg1 hz
 go_wp2_with (refine store28 rfl (.tmp 4) _ rfl _ (vCells 0 false 0 0 0 ⟨#[]⟩ 0 0 0 0 0 0 0 0) rfl rfl rfl rfl 28 _ HG1.out rfl ?_)
 exact bodyPost_ret (v := .agg (vCells 0 false 0 0 0 ⟨#[]⟩ 0 0 0 0 0 0 0 0)) (results_28o Tryz.results12 _ _ _ _ _ _ rfl (row28_set _ _ _ _ HG1.out) rfl) rfl ⟨below_setRow HB1.out (Nat.le_refl _), _, VIs.nul, rfl⟩
end Go.Proofs.YtillamhoakohdaaGreatDoor

/-
  Walks: a time as package impl tells it.
-/
import Derived.Test.YtillamhoakohdaaGreatDoorM26
import Derived.Test.YtillamhoakohdaaGreatDoorM33
set_option linter.unusedVariables false
set_option linter.unusedSimpArgs false
namespace Go.Proofs.YtillamhoakohdaaGreatDoor
open Go.RowKit

@[go_sem] theorem as61_4 (v : Value) (w : World) : (Instr.typeAssert (.iface 61 v) 20 4 true).run Tryz.prog w = .ok (.tuple #[.bool false, .bool false]) w := by kernel_rfl
@[go_sem] theorem as61_3 (v : Value) (w : World) : (Instr.typeAssert (.iface 61 v) 20 3 true).run Tryz.prog w = .ok (.tuple #[.int .i64 0, .bool false]) w := by kernel_rfl
@[go_sem] theorem as61_2 (v : Value) (w : World) : (Instr.typeAssert (.iface 61 v) 20 2 true).run Tryz.prog w = .ok (.tuple #[.int .i64 0, .bool false]) w := by kernel_rfl
@[go_sem] theorem as61_23 (v : Value) (w : World) : (Instr.typeAssert (.iface 61 v) 20 23 true).run Tryz.prog w = .ok (.tuple #[.int .u64 0, .bool false]) w := by kernel_rfl
@[go_sem] theorem as61_52 (v : Value) (w : World) : (Instr.typeAssert (.iface 61 v) 20 52 true).run Tryz.prog w = .ok (.tuple #[.float .f64 0, .bool false]) w := by kernel_rfl
@[go_sem] theorem as61_9 (v : Value) (w : World) : (Instr.typeAssert (.iface 61 v) 20 9 true).run Tryz.prog w = .ok (.tuple #[.string ByteArray.empty, .bool false]) w := by kernel_rfl
@[go_sem] theorem as61_60 (v : Value) (w : World) : (Instr.typeAssert (.iface 61 v) 20 60 true).run Tryz.prog w = .ok (.tuple #[.slice none 0 0, .bool false]) w := by kernel_rfl
@[go_sem] theorem as61_61 (v : Value) (w : World) : (Instr.typeAssert (.iface 61 v) 20 61 true).run Tryz.prog w = .ok (.tuple #[v, .bool true]) w := by kernel_rfl
set_option maxRecDepth 100000 in
set_option maxHeartbeats 400000 in
theorem tell_tim (a0 a1 a2 a3 a4 a5 a6 a7 : Int) (bl : Nat) (w : World) (hl : w.heap[bl]? = some (.cells #[.int .i64 1000] 3 (0, 0))) : Calls Tryz.prog 12 #[.iface 61 (.agg (tCells a0 a1 a2 a3 a4 a5 a6 a7)), .pointer (some ⟨bl, 0, none⟩)] w (TellPost bl (.tim [a0, a1, a2, a3, a4, a5, a6, a7]) w) := by
 have c0 := cellv hl 0 _ rfl
 have f0 := frozen_of_row _ _ 0 _ _ hl
 have hlt := lt_of_heap hl
 have HH := Lib.hid hl
 clear hl
 go_enter Tryz.func12, Tryz.ntmps12
 go_upto_region 27 with fail
 have hz : (w.setCell ⟨bl, 0, none⟩ (.int .i64 999)).heap.size = w.heap.size := by simp
 have hB1 : Below w.heap.size (w.setCell ⟨bl, 0, none⟩ (.int .i64 999)) ((w.setCell ⟨bl, 0, none⟩ (.int .i64 999)).alloc (.cells z28 28)) := (Below.refl _ _).alloc (Nat.le_of_eq hz.symm) _
 have hg1 : ((w.setCell ⟨bl, 0, none⟩ (.int .i64 999)).alloc (.cells z28 28)).heap[w.heap.size]? = some (.cells z28 28 (0, 0)) := by have := heap_alloc_new (w.setCell ⟨bl, 0, none⟩ (.int .i64 999)) (.cells z28 28); rw [hz] at this; exact this
 have hs1 : w.heap.size < ((w.setCell ⟨bl, 0, none⟩ (.int .i64 999)).alloc (.cells z28 28)).heap.size := lt_of_heap hg1
 unfold z28 at hB1 hg1 hs1
 generalize hw0 : w.setCell ⟨bl, 0, none⟩ (.int .i64 999) = w0 at *
 have HW0 := Lib.hid hw0
 clear hw0
 generalize w0.alloc (.cells #[.int .i64 0, .bool false, .int .i64 0, .int .u64 0, .int .u64 0, .string ⟨#[]⟩, .int .i64 0, .int .i64 0, .int .i64 0, .int .i64 0, .int .i64 0, .int .i64 0, .int .i64 0, .int .i64 0, .slice none 0 0, .slice none 0 0] 28) = W1 at *
 generalize hN0 : w.heap.size = N at *
 have HN0 := Lib.hid hN0
 clear hN0
 have HB1 := Lib.hid hB1
 have HG1 := Lib.hid hg1
 have HS1 := Lib.hid hs1
 clear hB1 hg1 hs1 hz c0 f0 hlt HH
 go_upto_region 28 with (refine store61 rfl _ _ rfl _ (tCells a0 a1 a2 a3 a4 a5 a6 a7) rfl rfl rfl rfl 61 _ (heap_alloc_new _ _) rfl ?_)
 simp only [Act.put]
 have hM := row28_set (W1.alloc (.cells #[.int .i64 0, .int .i64 0, .int .i64 0, .int .i64 0, .int .i64 0, .int .i64 0, .int .i64 0, .int .i64 0] 61)) W1.heap.size _ (tCells a0 a1 a2 a3 a4 a5 a6 a7) (heap_alloc_new W1 (.cells #[.int .i64 0, .int .i64 0, .int .i64 0, .int .i64 0, .int .i64 0, .int .i64 0, .int .i64 0, .int .i64 0] 61))
 have hN := hg_setRow (k := W1.heap.size) (cs := tCells a0 a1 a2 a3 a4 a5 a6 a7) (hg_alloc (x := .cells #[.int .i64 0, .int .i64 0, .int .i64 0, .int .i64 0, .int .i64 0, .int .i64 0, .int .i64 0, .int .i64 0] 61) HG1.out) (by have := HS1.out; omega)
 have hB2 := below_setRow (cs := tCells a0 a1 a2 a3 a4 a5 a6 a7) (HB1.out.alloc (Nat.le_of_lt HS1.out) (.cells #[.int .i64 0, .int .i64 0, .int .i64 0, .int .i64 0, .int .i64 0, .int .i64 0, .int .i64 0, .int .i64 0] 61)) (Nat.le_of_lt HS1.out)
 generalize (W1.alloc (.cells #[.int .i64 0, .int .i64 0, .int .i64 0, .int .i64 0, .int .i64 0, .int .i64 0, .int .i64 0, .int .i64 0] 61)).setRow W1.heap.size (tCells a0 a1 a2 a3 a4 a5 a6 a7) = W2 at *
 have HM : Hid (W2.heap[W1.heap.size]? = some (.cells #[.int .i64 a0, .int .i64 a1, .int .i64 a2, .int .i64 a3, .int .i64 a4, .int .i64 a5, .int .i64 a6, .int .i64 a7] 61 (0, 0))) := Lib.hid hM
 have HN := Lib.hid hN
 have HB2 := Lib.hid hB2
 clear hM hN hB2
 go_wp2_with (first | (refine load61 rfl (.tmp 12) rfl _ rfl 61 _ _ HM.out rfl ?_) | (refine store28 rfl (.tmp 4) (.tmp 89) rfl _ (vCells 9 false 0 0 0 ⟨#[]⟩ a0 a1 a2 a3 a4 a5 a6 a7) rfl rfl rfl rfl 28 _ HN.out rfl ?_))
 exact bodyPost_ret (v := .agg (vCells 9 false 0 0 0 ⟨#[]⟩ a0 a1 a2 a3 a4 a5 a6 a7)) (results_28o Tryz.results12 _ _ _ _ _ _ rfl (row28_set _ _ _ _ HN.out) rfl) rfl ⟨by rw [HW0.out, HN0.out]; exact below_setRow HB2.out (Nat.le_refl _), _, VIs.tim a0 a1 a2 a3 a4 a5 a6 a7, rfl⟩
end Go.Proofs.YtillamhoakohdaaGreatDoor

/-
  Ground: the sixteen cells of a value. Walks: two alike values are told alike.
-/
import Derived.Test.YtillamhoakohdaaGreatDoorM09
set_option linter.unusedVariables false
set_option linter.unusedSimpArgs false
namespace Go.Proofs.YtillamhoakohdaaGreatDoor
open Go.RowKit

theorem cellv {W : World} {g : Nat} {cs : Array Value} {ty : TypeId} {fr : Nat × Nat} (h : W.heap[g]? = some (.cells cs ty fr)) (i : Nat) (v : Value) (hv : cs[i]? = some v) : W.cell? ⟨g, i, none⟩ = some v :=
 (cell_of_row _ _ i _ _ _ h).trans hv
theorem cells16 {W : World} {g : Nat} {ty : TypeId} {fr : Nat × Nat} {k : Int} {b : Bool} {i u f : Int} {t : ByteArray} {a0 a1 a2 a3 a4 a5 a6 a7 : Int} (h : W.heap[g]? = some (.cells (vCells k b i u f t a0 a1 a2 a3 a4 a5 a6 a7) ty fr)) :
  W.cell? ⟨g, 0, none⟩ = some (.int .i64 k) ∧ W.cell? ⟨g, 1, none⟩ = some (.bool b) ∧ W.cell? ⟨g, 2, none⟩ = some (.int .i64 i) ∧ W.cell? ⟨g, 3, none⟩ = some (.int .u64 u) ∧ W.cell? ⟨g, 4, none⟩ = some (.int .u64 f) ∧ W.cell? ⟨g, 5, none⟩ = some (.string t) ∧ W.cell? ⟨g, 6, none⟩ = some (.int .i64 a0) ∧ W.cell? ⟨g, 7, none⟩ = some (.int .i64 a1) ∧ W.cell? ⟨g, 8, none⟩ = some (.int .i64 a2) ∧ W.cell? ⟨g, 9, none⟩ = some (.int .i64 a3) ∧ W.cell? ⟨g, 10, none⟩ = some (.int .i64 a4) ∧ W.cell? ⟨g, 11, none⟩ = some (.int .i64 a5) ∧ W.cell? ⟨g, 12, none⟩ = some (.int .i64 a6) ∧ W.cell? ⟨g, 13, none⟩ = some (.int .i64 a7) ∧ W.cell? ⟨g, 14, none⟩ = some (.slice none 0 0) ∧ W.cell? ⟨g, 15, none⟩ = some (.slice none 0 0) :=
 ⟨cellv h 0 _ rfl, cellv h 1 _ rfl, cellv h 2 _ rfl, cellv h 3 _ rfl, cellv h 4 _ rfl, cellv h 5 _ rfl, cellv h 6 _ rfl, cellv h 7 _ rfl, cellv h 8 _ rfl, cellv h 9 _ rfl, cellv h 10 _ rfl, cellv h 11 _ rfl, cellv h 12 _ rfl, cellv h 13 _ rfl, cellv h 14 _ rfl, cellv h 15 _ rfl⟩
theorem froz16 {W : World} {g : Nat} {ty : TypeId} {cs : Array Value} (h : W.heap[g]? = some (.cells cs ty (0, 0))) :
  W.frozen? ⟨g, 0, none⟩ = false ∧ W.frozen? ⟨g, 1, none⟩ = false ∧ W.frozen? ⟨g, 2, none⟩ = false ∧ W.frozen? ⟨g, 3, none⟩ = false ∧ W.frozen? ⟨g, 4, none⟩ = false ∧ W.frozen? ⟨g, 5, none⟩ = false ∧ W.frozen? ⟨g, 6, none⟩ = false ∧ W.frozen? ⟨g, 7, none⟩ = false ∧ W.frozen? ⟨g, 8, none⟩ = false ∧ W.frozen? ⟨g, 9, none⟩ = false ∧ W.frozen? ⟨g, 10, none⟩ = false ∧ W.frozen? ⟨g, 11, none⟩ = false ∧ W.frozen? ⟨g, 12, none⟩ = false ∧ W.frozen? ⟨g, 13, none⟩ = false ∧ W.frozen? ⟨g, 14, none⟩ = false ∧ W.frozen? ⟨g, 15, none⟩ = false :=
 ⟨frozen_of_row _ _ 0 _ _ h, frozen_of_row _ _ 1 _ _ h, frozen_of_row _ _ 2 _ _ h, frozen_of_row _ _ 3 _ _ h, frozen_of_row _ _ 4 _ _ h, frozen_of_row _ _ 5 _ _ h, frozen_of_row _ _ 6 _ _ h, frozen_of_row _ _ 7 _ _ h, frozen_of_row _ _ 8 _ _ h, frozen_of_row _ _ 9 _ _ h, frozen_of_row _ _ 10 _ _ h, frozen_of_row _ _ 11 _ _ h, frozen_of_row _ _ 12 _ _ h, frozen_of_row _ _ 13 _ _ h, frozen_of_row _ _ 14 _ _ h, frozen_of_row _ _ 15 _ _ h⟩
def put16 (W : World) (g : Nat) (k : Int) (b : Bool) (i u f : Int) (t : ByteArray) (a0 a1 a2 a3 a4 a5 a6 a7 : Int) : World :=
 ((((((((((((((((W.setCell ⟨g, 0, none⟩ (.int .i64 k)).setCell ⟨g, 1, none⟩ (.bool b)).setCell ⟨g, 2, none⟩ (.int .i64 i)).setCell ⟨g, 3, none⟩ (.int .u64 u)).setCell ⟨g, 4, none⟩ (.int .u64 f)).setCell ⟨g, 5, none⟩ (.string t)).setCell ⟨g, 6, none⟩ (.int .i64 a0)).setCell ⟨g, 7, none⟩ (.int .i64 a1)).setCell ⟨g, 8, none⟩ (.int .i64 a2)).setCell ⟨g, 9, none⟩ (.int .i64 a3)).setCell ⟨g, 10, none⟩ (.int .i64 a4)).setCell ⟨g, 11, none⟩ (.int .i64 a5)).setCell ⟨g, 12, none⟩ (.int .i64 a6)).setCell ⟨g, 13, none⟩ (.int .i64 a7)).setCell ⟨g, 14, none⟩ (.slice none 0 0)).setCell ⟨g, 15, none⟩ (.slice none 0 0))
theorem cell_step28 {w0 W : World} {B g : Nat} {cs : Array Value} (h : W.heap[g]? = some (.cells cs 28 (0, 0)) ∧ Below B w0 W) (hB : B ≤ g) (i : Nat) (v : Value) :
  (W.setCell ⟨g, i, none⟩ v).heap[g]? = some (.cells (cs.setIfInBounds i v) 28 (0, 0)) ∧ Below B w0 (W.setCell ⟨g, i, none⟩ v) :=
 ⟨heap_setCell_same _ _ _ _ _ _ h.1, h.2.setCell hB v⟩
theorem put16_fin {w0 W : World} {B g : Nat} (h : W.heap[g]? = some (.cells z28 28 (0, 0)) ∧ Below B w0 W) (hB : B ≤ g) (k : Int) (b : Bool) (i u f : Int) (t : ByteArray) (a0 a1 a2 a3 a4 a5 a6 a7 : Int) :
  (put16 W g k b i u f t a0 a1 a2 a3 a4 a5 a6 a7).heap[g]? = some (.cells (vCells k b i u f t a0 a1 a2 a3 a4 a5 a6 a7) 28 (0, 0)) ∧ Below B w0 (put16 W g k b i u f t a0 a1 a2 a3 a4 a5 a6 a7) := by
 have q := h
 replace q := cell_step28 q hB 0 (.int .i64 k)
 replace q := cell_step28 q hB 1 (.bool b)
 replace q := cell_step28 q hB 2 (.int .i64 i)
 replace q := cell_step28 q hB 3 (.int .u64 u)
 replace q := cell_step28 q hB 4 (.int .u64 f)
 replace q := cell_step28 q hB 5 (.string t)
 replace q := cell_step28 q hB 6 (.int .i64 a0)
 replace q := cell_step28 q hB 7 (.int .i64 a1)
 replace q := cell_step28 q hB 8 (.int .i64 a2)
 replace q := cell_step28 q hB 9 (.int .i64 a3)
 replace q := cell_step28 q hB 10 (.int .i64 a4)
 replace q := cell_step28 q hB 11 (.int .i64 a5)
 replace q := cell_step28 q hB 12 (.int .i64 a6)
 replace q := cell_step28 q hB 13 (.int .i64 a7)
 replace q := cell_step28 q hB 14 (.slice none 0 0)
 replace q := cell_step28 q hB 15 (.slice none 0 0)
 simp only [z28, List.setIfInBounds_toArray, List.set_cons_succ, List.set_cons_zero] at q
 unfold put16 vCells
 exact q
end Go.Proofs.YtillamhoakohdaaGreatDoor
namespace Go.Proofs.YtillamhoakohdaaGreatDoor
open Go.RowKit
attribute [local go_sem] setCell_drewN

set_option maxRecDepth 100000 in
set_option maxHeartbeats 4000000 in
theorem sameValue_any (k : Int) (b : Bool) (i u f : Int) (t : ByteArray) (a0 a1 a2 a3 a4 a5 a6 a7 : Int) (w : World) :
  Calls Tryz.prog 7 #[.agg (vCells k b i u f t a0 a1 a2 a3 a4 a5 a6 a7), .agg (vCells k b i u f t a0 a1 a2 a3 a4 a5 a6 a7)] w fun e w' => e = .returned (.bool true) ∧ Below w.heap.size w w' := by
 unfold vCells
 go_enter Tryz.func7, Tryz.ntmps7
 go_upto_region 1 with fail
 have h1 := hg_alloc (x := .cells (vCells k b i u f t a0 a1 a2 a3 a4 a5 a6 a7) 28 (0, 0)) (heap_alloc_new w (.cells (vCells k b i u f t a0 a1 a2 a3 a4 a5 a6 a7) 28 (0, 0)))
 have h2 := heap_alloc_new (w.alloc (.cells (vCells k b i u f t a0 a1 a2 a3 a4 a5 a6 a7) 28 (0, 0))) (.cells (vCells k b i u f t a0 a1 a2 a3 a4 a5 a6 a7) 28 (0, 0))
 have hB : Below w.heap.size w ((w.alloc (.cells (vCells k b i u f t a0 a1 a2 a3 a4 a5 a6 a7) 28 (0, 0))).alloc (.cells (vCells k b i u f t a0 a1 a2 a3 a4 a5 a6 a7) 28 (0, 0))) := ((Below.refl _ _).alloc (Nat.le_refl _) _).alloc (by simp) _
 have hsz : (w.alloc (.cells (vCells k b i u f t a0 a1 a2 a3 a4 a5 a6 a7) 28 (0, 0))).heap.size = w.heap.size + 1 := by simp
 rw [hsz] at h2
 clear hsz
 generalize hW : World.alloc (World.alloc w _) _ = W at *
 change World.alloc (World.alloc w (.cells #[.int .i64 k, .bool b, .int .i64 i, .int .u64 u, .int .u64 f, .string t, .int .i64 a0, .int .i64 a1, .int .i64 a2, .int .i64 a3, .int .i64 a4, .int .i64 a5, .int .i64 a6, .int .i64 a7, .slice none 0 0, .slice none 0 0] 28 (0, 0))) (.cells #[.int .i64 k, .bool b, .int .i64 i, .int .u64 u, .int .u64 f, .string t, .int .i64 a0, .int .i64 a1, .int .i64 a2, .int .i64 a3, .int .i64 a4, .int .i64 a5, .int .i64 a6, .int .i64 a7, .slice none 0 0, .slice none 0 0] 28 (0, 0)) = W at hW
 try rw [hW]
 clear hW
 obtain ⟨hd0, hd1, hd2, hd3, hd4, hd5, hd6, hd7, hd8, hd9, hd10, hd11, hd12, hd13, hd14, hd15⟩ := cells16 h1
 obtain ⟨hz0, hz1, hz2, hz3, hz4, hz5, hz6, hz7, hz8, hz9, hz10, hz11, hz12, hz13, hz14, hz15⟩ := cells16 h2
 clear h1 h2
 go_upto_region 3 with fail
 go_quiet (fail)
 go_wp2
 go_loop [93] (fun v => v = .int .i64 0) (fun _ => 0)
 case atStart => exact rfl
 case round =>
  cases hrel
  go_wp2
  go_loop [110] (fun v => v = .int .i64 0) (fun _ => 0)
  case atStart => exact rfl
  case round =>
   cases hrel
   go_wp2
   go_ret
   exact ⟨rfl, below_drewN hB _⟩
end Go.Proofs.YtillamhoakohdaaGreatDoor

/-
  Walks: the library's errors.
-/
import Derived.Shelf.Strconv.Clone
import Derived.Lib.IfaceEq
import Derived.Deep.RegionWith
import Derived.Test.YtillamhoakohdaaGreatDoorM04
set_option linter.unusedVariables false
set_option linter.unusedSimpArgs false
namespace Go.Proofs.YtillamhoakohdaaGreatDoor
open Go.RowKit Go.Shelf

def cloneRen : Ren := { f := fun n => if n = 316 then 131 else 0, t := fun n => if n = 3 then 3 else if n = 4 then 4 else if n = 5 then 5 else if n = 9 then 9 else if n = 37 then 60 else if n = 127 then 216 else 0, g := fun n => n }
theorem cloneLaid : LaysM.n316 Tryz.prog cloneRen :=
  { mixed := rfl, f316 := Tryz.func131.trans (congrArg some rfl),
    t0 := Tryz.underlying0, a0 := Tryz.isAgg0, z0 := Tryz.sizeOf0, v0 := Tryz.zeroValue0,
    t3 := Tryz.underlying3, a3 := Tryz.isAgg3, z3 := Tryz.sizeOf3, v3 := Tryz.zeroValue3, t4 := Tryz.underlying4, a4 := Tryz.isAgg4, z4 := Tryz.sizeOf4, v4 := Tryz.zeroValue4,
    t5 := Tryz.underlying5, a5 := Tryz.isAgg5, z5 := Tryz.sizeOf5, v5 := Tryz.zeroValue5, t9 := Tryz.underlying9, a9 := Tryz.isAgg9, z9 := Tryz.sizeOf9, v9 := Tryz.zeroValue9,
    t37 := Tryz.underlying60, a37 := Tryz.isAgg60, z37 := Tryz.sizeOf60, v37 := Tryz.zeroValue60, t127 := Tryz.underlying216, a127 := Tryz.isAgg216, z127 := Tryz.sizeOf216, v127 := Tryz.zeroValue216,
    i0 := by kernel_rfl, i3 := by kernel_rfl, i4 := by kernel_rfl, i5 := by kernel_rfl, i9 := by kernel_rfl, i37 := by kernel_rfl, i127 := by kernel_rfl }
theorem clone_any (s : ByteArray) (w : World) (h : s.size ≤ 281474976710656) : Calls Tryz.prog 131 #[.string s] w fun e w' => e = .returned (.string s) ∧ Below w.heap.size w w' := Any.stringslite_Clone cloneLaid s w h

def PtrPost (w : World) (e : Ending) (w' : World) : Prop := (∃ p, e = .returned (.pointer p)) ∧ Below w.heap.size w w'
set_option maxHeartbeats 6400000 in
set_option maxRecDepth 100000 in
theorem syntaxError_any (fn s : ByteArray) (w : World) (HG : Glob w) (hs : s.size ≤ 1000) : Calls Tryz.prog 116 #[.string fn, .string s] w (PtrPost w) := by
 obtain ⟨te, pe, hv⟩ := HG.e1
 have hG : 1 < w.heap.size := by have := HG.size; omega
 have hvd : w.drew.cell? ⟨1, 0, none⟩ = some (.iface te (.pointer pe)) := hv
 go_enter Tryz.func116, Tryz.ntmps116
 go_wp2
 go_region_with (
  go_at_call 131
  refine (clone_any s _ (by omega)).mono ?_
  rintro e w2 ⟨rfl, hbel⟩
  have hv2 : w2.cell? ⟨1, 0, none⟩ = some (.iface te (.pointer pe)) := (hbel.cell (show (⟨1, 0, none⟩ : Addr).block < w.drew.heap.size from hG)).trans hvd)
 all_goals
  go_wp2
  go_ret
  have hs2 : w.heap.size ≤ w2.heap.size := hbel.size
  exact ⟨⟨_, rfl⟩, ((Below.drew (Below.refl _ w)).trans hbel).alloc hs2 _⟩
set_option maxHeartbeats 6400000 in
set_option maxRecDepth 100000 in
theorem rangeError_any (fn s : ByteArray) (w : World) (HG : Glob w) (hs : s.size ≤ 1000) : Calls Tryz.prog 117 #[.string fn, .string s] w (PtrPost w) := by
 obtain ⟨te, pe, hv⟩ := HG.e2
 have hG : 2 < w.heap.size := by have := HG.size; omega
 have hvd : w.drew.cell? ⟨2, 0, none⟩ = some (.iface te (.pointer pe)) := hv
 go_enter Tryz.func117, Tryz.ntmps117
 go_wp2
 go_region_with (
  go_at_call 131
  refine (clone_any s _ (by omega)).mono ?_
  rintro e w2 ⟨rfl, hbel⟩
  have hv2 : w2.cell? ⟨2, 0, none⟩ = some (.iface te (.pointer pe)) := (hbel.cell (show (⟨2, 0, none⟩ : Addr).block < w.drew.heap.size from hG)).trans hvd)
 all_goals
  go_wp2
  go_ret
  have hs2 : w.heap.size ≤ w2.heap.size := hbel.size
  exact ⟨⟨_, rfl⟩, ((Below.drew (Below.refl _ w)).trans hbel).alloc hs2 _⟩
theorem comp175 : (Tryz.prog.info? 175).map (·.comparable) = some true := by kernel_rfl
def SomeErr (w : World) (e : Ending) (w' : World) : Prop := (∃ t v, e = .returned (.iface t v)) ∧ Below w.heap.size w w'
set_option maxHeartbeats 4000000 in
theorem toError_any (fn s : ByteArray) (b n k : Int) (w : World) (HG : Glob w) (hs : s.size ≤ 1000) (hk : k = 1 ∨ k = 2) :
  Calls Tryz.prog 96 #[.string fn, .string s, .int .i64 b, .int .i64 n, .iface 175 (.int .i64 k)] w (SomeErr w) := by
 have heq : ∀ a W, (binOp .eql 83 (.iface 175 (.int .i64 k)) (.iface 175 (.int .i64 a))).run Tryz.prog W = .ok (.bool (k == a)) W := fun a W => Lib.run_eql_iface_int W k a Tryz.underlying83 comp175 Tryz.underlying175
 rcases hk with rfl | rfl
 ·go_enter Tryz.func96, Tryz.ntmps96
  go_wp2_with fail
  refine (rangeError_any fn s _ HG hs).mono ?_
  rintro e w' ⟨⟨p, rfl⟩, hb⟩
  go_wp2
  go_ret
  exact ⟨⟨_, _, rfl⟩, hb⟩
 ·go_enter Tryz.func96, Tryz.ntmps96
  go_wp2_with fail
  refine (syntaxError_any fn s _ HG hs).mono ?_
  rintro e w' ⟨⟨p, rfl⟩, hb⟩
  go_wp2
  go_ret
  exact ⟨⟨_, _, rfl⟩, hb⟩
end Go.Proofs.YtillamhoakohdaaGreatDoor

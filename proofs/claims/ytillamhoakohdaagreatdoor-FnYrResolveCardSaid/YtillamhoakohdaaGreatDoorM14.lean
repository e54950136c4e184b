/-
  Walks: what the program does behind the reading of a plain text.
-/
import Derived.Test.YtillamhoakohdaaGreatDoorM13
set_option linter.unusedVariables false
set_option linter.unusedSimpArgs false
namespace Go.Proofs.YtillamhoakohdaaGreatDoor
open Go.RowKit

def tBin : Bs := [33, 33, 98, 105, 110, 97, 114, 121]
set_option maxRecDepth 100000 in
set_option maxHeartbeats 1000000 in
theorem fin_same (b2 b4 b5 : Nat) (T R : ByteArray) (X : Value) (w : World) (h2 : w.heap[b2]? = some (.cells #[.string T] 9 (0, 0))) (h4 : w.heap[b4]? = some (.cells #[.string R] 9 (0, 0)))
    (h : T.toList = [] ∨ T.toList = R.toList ∨ T.toList = tStr ∨ T.toList = tBin) :
    CallsD Tryz.prog 33 #[.pointer (some ⟨b2, 0, none⟩), .pointer (some ⟨b4, 0, none⟩), .pointer (some ⟨b5, 0, none⟩)] .returning w fun e u' w' => u' = .returning ∧ e = .returned (.tuple #[]) ∧ w' = w := by
  have c2 := cellv h2 0 _ rfl
  have c4 := cellv h4 0 _ rfl
  clear h2 h4
  by_cases k0 : T.toList = []
  · have e0 : T.toList.isEmpty = true := by rw [k0]; rfl
    clear k0 h
    go_enter_d Tryz.func33, Tryz.ntmps33
    go_wp2
    exact bodyPost_ret (results_none rfl _ _ _) rfl ⟨rfl, rfl⟩
  have e0 : T.toList.isEmpty = false := by cases hx : T.toList with
                                           | nil => exact absurd hx k0
                                           | cons a b => rfl
  by_cases k1 : T.toList = R.toList
  · have e1 : (T.toList == R.toList) = true := by simpa using k1
    clear k0 k1 h
    go_enter_d Tryz.func33, Tryz.ntmps33
    go_wp2
    exact bodyPost_ret (results_none rfl _ _ _) rfl ⟨rfl, rfl⟩
  have e1 : (T.toList == R.toList) = false := by simpa using k1
  by_cases k2 : T.toList = tStr
  · have e2 : (T.toList == [33, 33, 115, 116, 114]) = true := by rw [k2]; rfl
    clear k0 k1 k2 h
    go_enter_d Tryz.func33, Tryz.ntmps33
    go_wp2
    exact bodyPost_ret (results_none rfl _ _ _) rfl ⟨rfl, rfl⟩
  have e2 : (T.toList == [33, 33, 115, 116, 114]) = false := by simpa [tStr] using k2
  have k3 : T.toList = tBin := by rcases h with h | h | h | h
                                  · exact absurd h k0
                                  · exact absurd h k1
                                  · exact absurd h k2
                                  · exact h
  have e3 : (T.toList == [33, 33, 98, 105, 110, 97, 114, 121]) = true := by rw [k3]; rfl
  clear k0 k1 k2 k3 h
  go_enter_d Tryz.func33, Tryz.ntmps33
  go_wp2
  exact bodyPost_ret (results_none rfl _ _ _) rfl ⟨rfl, rfl⟩
@[go_sem] theorem as3_2 (v : Value) (w : World) : (Instr.typeAssert (.iface 3 v) 20 2 true).run Tryz.prog w = .ok (.tuple #[.int .i64 0, .bool false]) w := by kernel_rfl
@[go_sem] theorem as3_3 (v : Value) (w : World) : (Instr.typeAssert (.iface 3 v) 20 3 true).run Tryz.prog w = .ok (.tuple #[v, .bool true]) w := by kernel_rfl
@[go_sem] theorem as23_2 (v : Value) (w : World) : (Instr.typeAssert (.iface 23 v) 20 2 true).run Tryz.prog w = .ok (.tuple #[.int .i64 0, .bool false]) w := by kernel_rfl
@[go_sem] theorem as23_3 (v : Value) (w : World) : (Instr.typeAssert (.iface 23 v) 20 3 true).run Tryz.prog w = .ok (.tuple #[.int .i64 0, .bool false]) w := by kernel_rfl
set_option maxRecDepth 100000 in
set_option maxHeartbeats 1000000 in
theorem fin_float (b2 b4 b5 : Nat) (T R : ByteArray) (n : Int) (w : World) (h2 : w.heap[b2]? = some (.cells #[.string T] 9 (0, 0))) (h4 : w.heap[b4]? = some (.cells #[.string R] 9 (0, 0)))
  (h5 : w.heap[b5]? = some (.cells #[.iface 3 (.int .i64 n)] 20 (0, 0))) (h45 : b4 ≠ b5) (hT : T.toList = tFloat) (hR : R.toList = tInt) :
  CallsD Tryz.prog 33 #[.pointer (some ⟨b2, 0, none⟩), .pointer (some ⟨b4, 0, none⟩), .pointer (some ⟨b5, 0, none⟩)] .returning w fun e u' w' => u' = .returning ∧ e = .returned (.tuple #[]) ∧ w' = (w.setCell ⟨b4, 0, none⟩ (.string ⟨#[33, 33, 102, 108, 111, 97, 116]⟩)).setCell ⟨b5, 0, none⟩ (.iface 52 (.float .f64 (floatOfInt .f64 n))) := by
 have c2 := cellv h2 0 _ rfl
 have c4 := cellv h4 0 _ rfl
 have c5 := cellv h5 0 _ rfl
 have f4 := frozen_of_row _ _ 0 _ _ h4
 have f5 := frozen_of_row _ _ 0 _ _ h5
 have e0 : T.toList.isEmpty = false := by rw [hT]; rfl
 have e1 : (T.toList == R.toList) = false := by rw [hT, hR]; rfl
 have e2 : (T.toList == [33, 33, 115, 116, 114]) = false := by rw [hT]; rfl
 have e3 : (T.toList == [33, 33, 98, 105, 110, 97, 114, 121]) = false := by rw [hT]; rfl
 have e4 : (T.toList == [33, 33, 102, 108, 111, 97, 116]) = true := by rw [hT]; rfl
 have e5 : (R.toList == [33, 33, 105, 110, 116]) = true := by rw [hR]; rfl
 clear h2 h4 h5 hT hR
 go_enter_d Tryz.func33, Tryz.ntmps33
 go_wp2
 exact bodyPost_ret (results_none rfl _ _ _) rfl ⟨rfl, rfl⟩
set_option maxRecDepth 100000 in
set_option maxHeartbeats 1000000 in
theorem fin_no (b2 b4 b5 : Nat) (T R : ByteArray) (X : Value) (w : World) (h2 : w.heap[b2]? = some (.cells #[.string T] 9 (0, 0))) (h4 : w.heap[b4]? = some (.cells #[.string R] 9 (0, 0)))
    (h5 : w.heap[b5]? = some (.cells #[X] 20 (0, 0))) (n0 : T.toList ≠ []) (n1 : T.toList ≠ R.toList) (n2 : T.toList ≠ tStr) (n3 : T.toList ≠ tBin)
    (hx : T.toList = tFloat → R.toList = tInt → ∃ v, X = .iface 23 v) :
    CallsD Tryz.prog 33 #[.pointer (some ⟨b2, 0, none⟩), .pointer (some ⟨b4, 0, none⟩), .pointer (some ⟨b5, 0, none⟩)] .returning w fun e u' w' => u' = .returning ∧ (∃ v, IsErr v ∧ e = .panicked [{ v := v, recovered := false }]) ∧ Below w.heap.size w w' := by
  have c2 := cellv h2 0 _ rfl
  have c4 := cellv h4 0 _ rfl
  have c5 := cellv h5 0 _ rfl
  have e0 : T.toList.isEmpty = false := by cases hx : T.toList with
                                           | nil => exact absurd hx n0
                                           | cons a b => rfl
  have e1 : (T.toList == R.toList) = false := by simpa using n1
  have e2 : (T.toList == [33, 33, 115, 116, 114]) = false := by simpa [tStr] using n2
  have e3 : (T.toList == [33, 33, 98, 105, 110, 97, 114, 121]) = false := by simpa [tBin] using n3
  have FF : Hid (∀ s w, s.size ≤ 1000 → Calls Tryz.prog 34 #[.string s] w fun e w' => Below w.heap.size w w' ∧ ∃ q, e = .panicked [{ v := .iface 85 (.agg #[.iface 157 (.pointer q)]), recovered := false }]) := Lib.hid (fun s w hs => failf_any s w hs)
  clear h2 h4 h5 n0 n1 n2 n3
  by_cases hf : T.toList = tFloat
  · have e4 : (T.toList == [33, 33, 102, 108, 111, 97, 116]) = true := by rw [hf]; rfl
    by_cases hi : R.toList = tInt
    · obtain ⟨v, rfl⟩ := hx hf hi
      have e5 : (R.toList == [33, 33, 105, 110, 116]) = true := by rw [hi]; rfl
      clear hf hi hx
      go_enter_d Tryz.func33, Tryz.ntmps33
      go_wp2_with fail
      refine (FF.out _ _ (by decide)).mono ?_
      rintro e w' ⟨hB, q, rfl⟩
      go_wp2
      exact ⟨rfl, ⟨_, ⟨q, rfl⟩, rfl⟩, hB⟩
    · have e5 : (R.toList == [33, 33, 105, 110, 116]) = false := by simpa [tInt] using hi
      clear hf hi hx
      go_enter_d Tryz.func33, Tryz.ntmps33
      go_wp2_with fail
      refine (FF.out _ _ (by decide)).mono ?_
      rintro e w' ⟨hB, q, rfl⟩
      go_wp2
      exact ⟨rfl, ⟨_, ⟨q, rfl⟩, rfl⟩, hB⟩
  · have e4 : (T.toList == [33, 33, 102, 108, 111, 97, 116]) = false := by simpa [tFloat] using hf
    clear hf hx
    go_enter_d Tryz.func33, Tryz.ntmps33
    go_wp2_with fail
    refine (FF.out _ _ (by decide)).mono ?_
    rintro e w' ⟨hB, q, rfl⟩
    go_wp2
    exact ⟨rfl, ⟨_, ⟨q, rfl⟩, rfl⟩, hB⟩
end Go.Proofs.YtillamhoakohdaaGreatDoor

/-
  Walks: how the program refuses: errors, panics. Walks: what catches a panic of the program.
-/
import Derived.Defers
import Derived.Recover
import Derived.Test.YtillamhoakohdaaGreatDoorM11
set_option linter.unusedVariables false
set_option linter.unusedSimpArgs false
namespace Go.Proofs.YtillamhoakohdaaGreatDoor
open Go.RowKit

theorem errNew_any (s : ByteArray) (w : World) : Calls Tryz.prog 63 #[.string s] w fun e w' => Below w.heap.size w w' ∧ ∃ p, e = .returned (.iface 157 (.pointer p)) := by
 go_enter Tryz.func63, Tryz.ntmps63
 go_wp2
 go_ret
 exact ⟨(Below.refl _ _).alloc (Nat.le_refl _) _, _, rfl⟩

theorem failf_any (s : ByteArray) (w : World) (hs : s.size ≤ 1000) : Calls Tryz.prog 34 #[.string s] w fun e w' => Below w.heap.size w w' ∧ ∃ q, e = .panicked [{ v := .iface 85 (.agg #[.iface 157 (.pointer q)]), recovered := false }] := by
 go_enter Tryz.func34, Tryz.ntmps34
 go_wp2_with fail
 refine (errNew_any _ _).mono ?_
 rintro e w' ⟨hB, p, rfl⟩
 go_wp2
 exact ⟨rfl, hB, _, rfl⟩

@[go_sem] theorem as85_85 (v : Value) (w : World) : (Instr.typeAssert (.iface 85 v) 20 85 true).run Tryz.prog w = .ok (.tuple #[v, .bool true]) w := by kernel_rfl
@[go_sem] theorem as85_9 (v : Value) (w : World) : (Instr.typeAssert (.iface 85 v) 20 9 true).run Tryz.prog w = .ok (.tuple #[.string ByteArray.empty, .bool false]) w := by kernel_rfl
theorem as85_55 (v : Value) (w : World) : (Instr.typeAssert (.iface 85 v) 20 55 true).run Tryz.prog w = .ok (.tuple #[.agg #[], .bool false]) w := by kernel_rfl
theorem info85 : (Tryz.prog.info? 85).map (·.size) = some 1 := by kernel_rfl
theorem store85 {ops : Array Oper} {rest : List Oper} {o : Oper} {a : Act} {w : World} {Q : Exit → Act → World → Prop} (hgd : o.guard = none) (x y : Operand) (ho : o.op = .store 85 x y)
  (g : Nat) (cells : Array Value) (hx : a.eval x = .pointer (some ⟨g, 0, none⟩)) (hy : a.eval y = .agg cells) (hc : cells.size = 1) (h1 : cells.toList.all (·.oneCell') = true)
  (t : TypeId) (old : Array Value) (hg : w.heap[g]? = some (.cells old t (0, 0))) (hold : old.size = 1)
  (h : wpList Tryz.prog ops Q rest (a.put o.dst undef) (w.setRow g cells)) : wpList Tryz.prog ops Q (o :: rest) a w :=
 wpList_store_row hgd 85 x y ho g cells hx hy t old hg (by rw [info85, hc]) (by rw [hold, hc]) (by rw [← Array.all_toList]; exact h1) h
def IsErr (v : Value) : Prop := ∃ q, v = .iface 85 (.agg #[.iface 157 (.pointer q)])
set_option maxRecDepth 100000 in
theorem refused_any (x : Value) (hx : IsErr x) (w : World) : Calls Tryz.prog 18 #[x] w fun e w' => Below w.heap.size w w' ∧ e = .returned (.bool true) := by
 obtain ⟨q, rfl⟩ := hx
 go_enter Tryz.func18, Tryz.ntmps18
 go_wp2_with (refine store85 rfl _ _ rfl _ _ rfl rfl rfl rfl 85 _ (heap_alloc_new _ _) rfl ?_; rw [World.setRow_alloc_new])
 go_ret
 exact ⟨(Below.refl _ _).alloc (Nat.le_refl _) _, rfl⟩
end Go.Proofs.YtillamhoakohdaaGreatDoor
namespace Go.Proofs.YtillamhoakohdaaGreatDoor
open Go.RowKit

set_option maxRecDepth 100000 in
theorem caught_idle (x y : Value) (w : World) : CallsD Tryz.prog 8 #[x, y] .returning w fun e u' w' => e = .returned (.tuple #[]) ∧ u' = .returning ∧ w' = w := by
 refine callsD_of_wpS Tryz.func8 rfl fun c₀ cs hu => ?_
 apply wpS_seq
 apply wpS_region
 simp [wpOpsS, go_sem, recoverD, hu, Tryz.ntmps8, Exit.thenS]
 apply wpS_seq
 apply wpS_seq
 apply wpS_region
 simp [wpOpsS, go_sem, Exit.thenS]
 refine wpS_cond (t := true) (by simp [Act.eval]) ?_
 simp only [if_true]
 refine wpS_of_wp (wp_ret ?_)
 cases c₀
 simp_all [bodyPostS, results, Tryz.results8, Exit.thenS]
def z32 : Array Value := #[.int .i64 0, .int .i64 0, .int .i64 0, .int .i64 0, .int .i64 0, .int .i64 0]
def k32 (k : Int) : Array Value := #[.int .i64 k, .int .i64 0, .int .i64 0, .int .i64 0, .int .i64 0, .int .i64 0]
theorem info32 : (Tryz.prog.info? 32).map (·.size) = some 6 := by kernel_rfl
theorem info55 : (Tryz.prog.info? 55).map (·.size) = some 0 := by kernel_rfl
theorem store32 {ops : Array Oper} {rest : List Oper} {o : Oper} {a : Act} {w : World} {Q : Exit → Act → World → Prop} (hgd : o.guard = none) (x y : Operand) (ho : o.op = .store 32 x y)
  (g : Nat) (cells : Array Value) (hx : a.eval x = .pointer (some ⟨g, 0, none⟩)) (hy : a.eval y = .agg cells) (hc : cells.size = 6) (h1 : cells.toList.all (·.oneCell') = true)
  (t : TypeId) (old : Array Value) (hg : w.heap[g]? = some (.cells old t (0, 0))) (hold : old.size = 6)
  (h : wpList Tryz.prog ops Q rest (a.put o.dst undef) (w.setRow g cells)) : wpList Tryz.prog ops Q (o :: rest) a w :=
 wpList_store_row hgd 32 x y ho g cells hx hy t old hg (by rw [info32, hc]) (by rw [hold, hc]) (by rw [← Array.all_toList]; exact h1) h
theorem store55 {ops : Array Oper} {rest : List Oper} {o : Oper} {a : Act} {w : World} {Q : Exit → Act → World → Prop} (hgd : o.guard = none) (x y : Operand) (ho : o.op = .store 55 x y)
  (g : Nat) (cells : Array Value) (hx : a.eval x = .pointer (some ⟨g, 0, none⟩)) (hy : a.eval y = .agg cells) (hc : cells.size = 0) (h1 : cells.toList.all (·.oneCell') = true)
  (t : TypeId) (old : Array Value) (hg : w.heap[g]? = some (.cells old t (0, 0))) (hold : old.size = 0)
  (h : wpList Tryz.prog ops Q rest (a.put o.dst undef) (w.setRow g cells)) : wpList Tryz.prog ops Q (o :: rest) a w :=
 wpList_store_row hgd 55 x y ho g cells hx hy t old hg (by rw [info55, hc]) (by rw [hold, hc]) (by rw [← Array.all_toList]; exact h1) h

def ZeroPost (b4 b5 : Nat) (w : World) (e : Ending) (w' : World) : Prop := e = .returned (.tuple #[]) ∧ w' = (w.setCell ⟨b4, 0, none⟩ (.string ⟨#[]⟩)).setRow b5 z28
set_option maxRecDepth 100000 in
theorem zero_any (b4 b5 : Nat) (w : World) (t : ByteArray) (cs : Array Value) (h4 : w.heap[b4]? = some (.cells #[.string t] 9 (0, 0))) (h5 : w.heap[b5]? = some (.cells cs 28 (0, 0))) (hn : cs.size = 16) (hne : b4 ≠ b5) :
  Calls Tryz.prog 9 #[.pointer (some ⟨b4, 0, none⟩), .pointer (some ⟨b5, 0, none⟩)] w (ZeroPost b4 b5 w) := by
 have c4 := cellv h4 0 _ rfl
 have f4 := frozen_of_row _ _ 0 _ _ h4
 have h5b : (w.setCell ⟨b4, 0, none⟩ (.string ⟨#[]⟩)).heap[b5]? = some (.cells cs 28 (0, 0)) := by rw [heap_setCell_other _ _ _ _ (by simp; omega)]; exact h5
 go_enter Tryz.func9, Tryz.ntmps9
 go_wp2_with (refine store28 rfl _ _ rfl _ z28 rfl rfl rfl rfl 28 _ h5b hn ?_)
 go_end0
 exact ⟨rfl, rfl⟩
set_option maxRecDepth 100000 in
set_option maxHeartbeats 4000000 in
theorem caught_err (bf b4 b5 : Nat) (v : Value) (older : List PanicEntry) (hv : IsErr v) (w : World) (t : ByteArray) (cs5 : Array Value) (h4 : w.heap[b4]? = some (.cells #[.string t] 9 (0, 0))) (h5 : w.heap[b5]? = some (.cells cs5 28 (0, 0))) (hn : cs5.size = 16)
    (hf : w.heap[bf]? = some (.cells z32 32 (0, 0))) (h45 : b4 < b5) (h5f : b5 < bf) :
    CallsD Tryz.prog 8 #[.pointer (some ⟨bf, 0, none⟩), .func (.func 9) #[] #[.pointer (some ⟨b4, 0, none⟩), .pointer (some ⟨b5, 0, none⟩)]] (.panicking ({ v := v, recovered := false } :: older)) w
      fun e u' w' => e = .returned (.tuple #[]) ∧ u' = .panicking ({ v := v, recovered := true } :: older) ∧ w'.heap[b4]? = some (.cells #[.string ⟨#[]⟩] 9 (0, 0)) ∧ w'.heap[b5]? = some (.cells z28 28 (0, 0)) ∧ w'.heap[bf]? = some (.cells (k32 7) 32 (0, 0)) ∧ Below b4 w w' := by
  have HV := Lib.hid hv
  obtain ⟨q, rfl⟩ := hv
  have Z : Hid (Calls Tryz.prog 9 #[.pointer (some ⟨b4, 0, none⟩), .pointer (some ⟨b5, 0, none⟩)] w (ZeroPost b4 b5 w)) := Lib.hid (zero_any b4 b5 w t cs5 h4 h5 hn (by omega))
  have g4 : ((w.setCell ⟨b4, 0, none⟩ (.string ⟨#[]⟩)).setRow b5 z28).heap[b4]? = some (.cells #[.string ⟨#[]⟩] 9 (0, 0)) := hg_setRow (heap_setCell_same _ _ _ _ _ _ h4) (by omega)
  have g5 : ((w.setCell ⟨b4, 0, none⟩ (.string ⟨#[]⟩)).setRow b5 z28).heap[b5]? = some (.cells z28 28 (0, 0)) := row28_set _ _ _ _ (by rw [heap_setCell_other _ _ _ _ (by simp; omega)]; exact h5)
  have gf : ((w.setCell ⟨b4, 0, none⟩ (.string ⟨#[]⟩)).setRow b5 z28).heap[bf]? = some (.cells z32 32 (0, 0)) := hg_setRow (by rw [heap_setCell_other _ _ _ _ (by simp; omega)]; exact hf) (by omega)
  have gB : Below b4 w ((w.setCell ⟨b4, 0, none⟩ (.string ⟨#[]⟩)).setRow b5 z28) := below_setRow (Below.setCell (Below.refl b4 w) (p := ⟨b4, 0, none⟩) (Nat.le_refl b4) _) (by omega)
  clear h4 h5 hn hf
  refine callsD_of_wpS Tryz.func8 rfl fun c₀ cs hu => ?_
  simp only [Tryz.ntmps8, List.size_toArray, List.length_cons, List.length_nil, Nat.reduceAdd, Nat.reduceSub, Array.replicate_succ,
     Array.replicate_zero, List.push_toArray, List.append_toArray, List.nil_append, List.cons_append]
  apply wpS_seq
  apply wpS_region
  simp [wpOpsS, go_sem, recoverD, hu, Exit.thenS]
  refine wpS_of_wp ?_
  generalize hQ : (fun (e : Exit) (a' : Act) (w' : World) => bodyPostS Tryz.prog Tryz.f8 c₀ cs _ e a' _ w') = Q'
  have HQ := Lib.hid hQ
  clear hQ hu
  go_wp2_with fail
  refine Z.out.mono ?_
  rintro e w' ⟨rfl, rfl⟩
  clear Z
  generalize (w.setCell ⟨b4, 0, none⟩ (.string ⟨#[]⟩)).setRow b5 z28 = w2 at *
  have r4 : (w2.setRow bf (k32 2)).heap[b4]? = some (.cells #[.string ⟨#[]⟩] 9 (0, 0)) := hg_setRow g4 (by omega)
  have r5 : (w2.setRow bf (k32 2)).heap[b5]? = some (.cells z28 28 (0, 0)) := hg_setRow g5 (by omega)
  have rf : (w2.setRow bf (k32 2)).heap[bf]? = some (.cells (k32 2) 32 (0, 0)) := row28_set _ _ _ _ gf
  have rB : Below b4 w (w2.setRow bf (k32 2)) := below_setRow gB (by omega)
  have ha : ∀ v, (Instr.typeAssert (.iface 85 v) 20 55 true).run Tryz.prog (w2.setRow bf (k32 2)) = .ok (.tuple #[.agg #[], .bool false]) (w2.setRow bf (k32 2)) := fun v => as85_55 v _
  go_upto_region 4 with (refine store32 rfl _ _ rfl _ (k32 2) rfl rfl rfl rfl 32 _ gf rfl ?_)
  generalize w2.setRow bf (k32 2) = w3 at *
  clear g4 g5 gf gB
  go_wp2_with (refine store55 rfl _ _ rfl _ #[] rfl rfl rfl rfl 55 _ (heap_alloc_new _ _) rfl ?_; rw [World.setRow_alloc_new])
  refine (refused_any _ HV.out _).mono ?_
  rintro e w' ⟨hB, rfl⟩
  have hbf : bf < w3.heap.size := lt_of_heap rf
  have hB2 : Below w3.heap.size w3 w' := ((Below.refl w3.heap.size w3).alloc (Nat.le_refl _) (.cells #[] 55)).trans (hB.mono (by simp))
  have q4 := hg_below hB2 (lt_of_heap r4) r4
  have q5 := hg_below hB2 (lt_of_heap r5) r5
  have qf := hg_below hB2 (lt_of_heap rf) rf
  have qB : Below b4 w w' := rB.trans (hB2.mono (by omega))
  clear hB hB2 r4 r5 rf rB
  go_wp2_with (refine store32 rfl _ _ rfl _ (k32 7) rfl rfl rfl rfl 32 _ qf rfl ?_)
  rw [← HQ.out]
  refine ⟨rfl, _, rfl, ?_⟩
  exact ⟨_, results_none rfl _ _ _, rfl, rfl, hg_setRow q4 (by omega), hg_setRow q5 (by omega), row28_set _ _ _ _ qf, below_setRow qB (by omega)⟩
end Go.Proofs.YtillamhoakohdaaGreatDoor

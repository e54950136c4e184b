/-
  Walks: the light ParseFloat's small functions, the rest of them.
-/
import Derived.Test.YtillamhoakohdaaGreatDoorM13
import Derived.Test.YtillamhoakohdaaGreatDoorM22
set_option linter.unusedVariables false
set_option linter.unusedSimpArgs false
namespace Go.Proofs.YtillamhoakohdaaGreatDoor
open Go.RowKit
attribute [local go_sem] setCell_drewN

theorem uok_plain : ∀ (l : Bs) (k : Nat), k ≠ 1 → (∀ c ∈ l, c ≠ 95) → uok k l = true
 | [], k, hk, _ => by unfold uok; simp [hk]
 | c :: l, k, hk, h => by
  by_cases hd : isDig c = true
  ·rw [uok_yes hd]; exact uok_plain l 0 (by omega) (fun x hx => h x (List.mem_cons_of_mem _ hx))
  ·rw [uok_oth hd (h c List.mem_cons_self), if_neg hk]; exact uok_plain l 2 (by omega) (fun x hx => h x (List.mem_cons_of_mem _ hx))
set_option maxRecDepth 100000 in
theorem underscores_any (s : ByteArray) (l : Bs) (w : World) (hl : StrIs s l) (hs : s.size ≤ 1000) (hp : NoPre (sgn l).1) :
  Calls Tryz.prog 69 #[.string s] w fun e w' => e = .returned (.bool (uok 2 (sgn l).1)) ∧ w' = w := by
 have HL := Lib.hid hl
 unfold StrIs at hl
 subst hl
 go_enter Tryz.func69, Tryz.ntmps69
 go_upto_region 2 with fail
 go_loop [3] (fun i => ∃ k : Nat, i = .int .i64 k ∧ k ≤ s.size ∧ Hid (∀ c ∈ s.data.toList.take k, c ≠ 95)) (fun i => s.size - (intOf i).toNat)
 case atStart => exact ⟨0, rfl, Nat.zero_le _, Lib.hid (by simp)⟩
 case round =>
  obtain ⟨k, rfl, hk, H⟩ := hrel
  by_cases hlt : k < s.size
  ·by_cases h95 : s[k] = 95
   ·have e1 : (s[k].toNat : Int) = 95 := by rw [h95]; rfl
    go_wp2_with fail
    refine (underscoreOK_any s _ _ HL.out hs hp).mono ?_
    rintro e w' ⟨rfl, rfl⟩
    go_wp2
    go_ret
    exact ⟨rfl, rfl⟩
   ·have k95 : ((s[k].toNat : Int) == 95) = false := byte_ne (d := 95) h95
    have HN : Hid (∀ c ∈ s.data.toList.take (k + 1), c ≠ 95) := Lib.hid (by
     intro c hc
     rw [List.take_add_one, List.mem_append] at hc
     rcases hc with hc | hc
     ·exact H.out c hc
     ·have : s.data.toList[k]? = some s[k] := HL.out.get k hlt
      rw [this] at hc; simp at hc; rw [hc]; exact h95)
    clear H h95
    go_wp2
    go_round
    case rel => exact ⟨k + 1, by go_num, by omega, HN⟩
    case measure => simp [intOf]; omega
  ·have HN : Hid (uok 2 (sgn s.data.toList).1 = true) := Lib.hid (by
    refine uok_plain _ 2 (by omega) (sgn_mem ?_)
    have := H.out
    rwa [List.take_of_length_le (by have := Lib.size_eq s; omega)] at this)
   clear H
   go_wp2
   go_ret
   exact ⟨by rw [HN.out]; rfl, rfl⟩

theorem info128 : (Tryz.prog.info? 128).map (·.size) = some 3 := by kernel_rfl
theorem store128 {ops : Array Oper} {rest : List Oper} {o : Oper} {a : Act} {w : World} {Q : Exit → Act → World → Prop} (hgd : o.guard = none) (x y : Operand) (ho : o.op = .store 128 x y)
  (g : Nat) (cells : Array Value) (hx : a.eval x = .pointer (some ⟨g, 0, none⟩)) (hy : a.eval y = .agg cells) (hc : cells.size = 3) (h1 : cells.toList.all (·.oneCell') = true)
  (t : TypeId) (old : Array Value) (hg : w.heap[g]? = some (.cells old t (0, 0))) (hold : old.size = 3)
  (h : wpList Tryz.prog ops Q rest (a.put o.dst undef) (w.setRow g cells)) : wpList Tryz.prog ops Q (o :: rest) a w :=
 wpList_store_row hgd 128 x y ho g cells hx hy t old hg (by rw [info128, hc]) (by rw [hold, hc]) (by rw [← Array.all_toList]; exact h1) h
theorem load128 {ops : Array Oper} {rest : List Oper} {o : Oper} {a : Act} {w : World} {Q : Exit → Act → World → Prop} (hgd : o.guard = none) (x : Operand) (ho : o.op = .load 128 x)
  (g : Nat) (hx : a.eval x = .pointer (some ⟨g, 0, none⟩)) (t : TypeId) (cs : Array Value) (fr : Nat × Nat) (hg : w.heap[g]? = some (.cells cs t fr)) (hc : cs.size = 3)
  (h : wpList Tryz.prog ops Q rest (a.put o.dst (.agg cs)) w) : wpList Tryz.prog ops Q (o :: rest) a w :=
 wpList_load_row hgd 128 x ho g hx t cs fr _ hg Tryz.underlying128 rfl (by rw [info128, hc]) h
theorem results_128 {fn : Func} {p : Tmp} (h : fn.results = #[.cell p 128]) (tmps : Array Value) (w : World) (g : Nat) (t : TypeId) (cs : Array Value) (fr : Nat × Nat)
  (hp : tmps.getD p undef = .pointer (some ⟨g, 0, none⟩)) (hg : w.heap[g]? = some (.cells cs t fr)) (hn : cs.size = 3) :
  (results fn tmps).run Tryz.prog w = .ok (.agg cs) w := by
 rw [results_cell_row h tmps w g t cs fr _ hp hg Tryz.underlying128 rfl (by rw [info128, hn])]
theorem formOf_any (w : World) : Calls Tryz.prog 66 #[.int .i64 64] w fun e w' => e = .returned fForm ∧ Below w.heap.size w w' := by
 go_enter Tryz.func66, Tryz.ntmps66
 go_wp2_with (refine store128 rfl _ _ rfl _ _ rfl rfl (by rfl) (by rfl) 128 _ (heap_alloc_new _ _) (by rfl) ?_)
 exact bodyPost_ret (v := fForm) (results_128 Tryz.results66 _ _ _ _ _ _ rfl (row28_set _ _ _ _ (heap_alloc_new _ _)) rfl) rfl ⟨rfl, below_setRow ((Below.refl _ _).alloc (Nat.le_refl _) _) (Nat.le_refl _)⟩
theorem float_any (n : Nat) (w : World) : Calls Tryz.prog 67 #[fForm, .int .u64 n] w fun e w' => e = .returned (.float .f64 n) ∧ Below w.heap.size w w' := by
 unfold fForm
 go_enter Tryz.func67, Tryz.ntmps67
 have hg := heap_alloc_new w (.cells #[.int .i64 52, .int .i64 11, .int .i64 (-1023)] 128)
 obtain ⟨b0, b1, b2⟩ := box_cells hg
 go_wp2
 go_ret
 exact ⟨by simp, (Below.refl _ _).alloc (Nat.le_refl _) _⟩
theorem fail_any (a b c : ByteArray) (w : World) : Calls Tryz.prog 70 #[.string a, .string b, .string c] w fun e w' => (∃ t v, e = .returned (.iface t v)) ∧ Below w.heap.size w w' := by
 go_enter Tryz.func70, Tryz.ntmps70
 go_wp2
 go_ret
 exact ⟨⟨_, _, rfl⟩, (Below.refl _ _).alloc (Nat.le_refl _) _⟩
end Go.Proofs.YtillamhoakohdaaGreatDoor

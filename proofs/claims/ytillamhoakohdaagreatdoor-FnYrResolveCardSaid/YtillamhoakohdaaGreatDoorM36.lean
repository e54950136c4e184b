/-
  Walks: package impl's reading of a text under a tag. Walks: the law's tags.
-/
import Derived.Deep.RegionWith
import Derived.Deep.RegionHeld3
import Derived.Test.YtillamhoakohdaaGreatDoorM13
import Derived.Test.YtillamhoakohdaaGreatDoorM32
import Derived.Test.YtillamhoakohdaaGreatDoorM35
set_option linter.unusedVariables false
set_option linter.unusedSimpArgs false
namespace Go.Proofs.YtillamhoakohdaaGreatDoor
open Go.RowKit

theorem tell_all {p : PV} {X : Value} (h : AnyT p X) (bl : Nat) (w : World) (hl : w.heap[bl]? = some (.cells #[.int .i64 1000] 3 (0, 0))) :
  Calls Tryz.prog 12 #[X, .pointer (some ⟨bl, 0, none⟩)] w (TellPost bl p w) := by
 cases h with
 | tim => exact tell_tim _ _ _ _ _ _ _ _ _ _ hl
 | any h =>
  cases h with
  | nul => exact tell_nul _ _ hl
  | bool b => exact tell_bool _ _ _ hl
  | int i => exact tell_int _ _ _ hl
  | uint i => exact tell_uint _ _ _ hl
  | flt n => exact tell_flt _ _ _ hl
  | txt s l hs =>
   have h := tell_txt s bl w hl
   rw [show s.data.toList = l from hs] at h
   exact h
theorem beyond_any (s : ByteArray) (hs : s.size ≤ 1000) (w : World) : Calls Tryz.prog 10 #[.string s] w fun e w' => e = .returned (.bool false) ∧ w = w' := by
 have h : decide ((16777216 : Int) < (s.size : Int)) = false := by simp; omega
 have h2 : (s.size : Int) ≤ 16777216 := by omega
 go_enter Tryz.func10, Tryz.ntmps10
 go_wp2
 go_ret
 exact ⟨rfl, rfl⟩
theorem zzResolve_any (tag s : ByteArray) (t0 l : Bs) (w : World) (hT0 : StrIs tag t0) (hL : StrIs s l) (ht : tag.size ≤ 1000) (hs : s.size ≤ 200) :
  Calls Tryz.prog 11 #[.string tag, .string s] w (RPost (shortP t0) l w) := by
 go_enter Tryz.func11, Tryz.ntmps11
 go_wp2_with fail
 refine (resolve_any tag s t0 l _ hT0 hL ht hs).mono ?_
 rintro e w' ⟨hB, h⟩
 obtain ⟨S, X, tg, p, h1, h2, h3, rfl⟩ | ⟨h1, v, hv, rfl⟩ := h
 ·go_wp2
  go_ret2
  exact ⟨hB, .inl ⟨S, X, tg, p, h1, h2, h3, rfl⟩⟩
 ·go_wp2
  exact ⟨rfl, hB, .inr ⟨h1, v, hv, rfl⟩⟩
def R3Post (t l : Bs) (w : World) (e : Ending) (w' : World) : Prop := Below w.heap.size w w' ∧
  ((∃ s v tg p, underOf t l = some (tg, p) ∧ StrIs s tg ∧ VIs p v ∧ e = .returned (.tuple #[.string s, v, .agg z32])) ∨
   (underOf t l = none ∧ e = .returned (.tuple #[.string ⟨#[]⟩, .agg z28, .agg (k32 7)])))
def V3 (n : Nat) (w W : World) (A : ByteArray) (B C : Array Value) : Prop := Below n w W ∧ W.heap[n]? = some (.cells #[.string A] 9 (0, 0)) ∧
 W.heap[n + 1]? = some (.cells B 28 (0, 0)) ∧ W.heap[n + 2]? = some (.cells C 32 (0, 0)) ∧ B.size = 16 ∧ C.size = 6
theorem V3.begin (w : World) : V3 w.heap.size w (((w.alloc (.cells #[.string { data := #[] }] 9)).alloc (.cells z28 28)).alloc (.cells z32 32)) ⟨#[]⟩ z28 z32 := by
 have e1 : (w.alloc (.cells #[.string { data := #[] }] 9)).heap.size = w.heap.size + 1 := by simp
 have e2 : ((w.alloc (.cells #[.string { data := #[] }] 9)).alloc (.cells z28 28)).heap.size = w.heap.size + 2 := by simp
 refine ⟨(((Below.refl _ _).alloc (Nat.le_refl _) _).alloc (by simp) _).alloc (by simp; omega) _, ?_, ?_, ?_, rfl, rfl⟩
 ·rw [heap_alloc_old (r := w.heap.size) _ _ (by simp; omega), heap_alloc_old (r := w.heap.size) _ _ (by simp)]; exact heap_alloc_new _ _
 ·rw [heap_alloc_old (r := w.heap.size + 1) _ _ (by simp)]; rw [← e1]; exact heap_alloc_new _ _
 ·rw [← e2]; exact heap_alloc_new _ _
theorem V3.step {n : Nat} {w W W' : World} {A : ByteArray} {B C : Array Value} (h : V3 n w W A B C) (hb : Below W.heap.size W W') : V3 n w W' A B C := by
 obtain ⟨h0, h2, h4, h5, h6, h7⟩ := h
 exact ⟨h0.trans (hb.mono (Nat.le_of_lt (lt_of_heap h2))), hg_below hb (lt_of_heap h2) h2, hg_below hb (lt_of_heap h4) h4, hg_below hb (lt_of_heap h5) h5, h6, h7⟩
theorem V3.put {n : Nat} {w W : World} {A : ByteArray} {B C : Array Value} (h : V3 n w W A B C) (A' : ByteArray) : V3 n w (W.setCell ⟨n, 0, none⟩ (.string A')) A' B C := by
 obtain ⟨h0, h2, h4, h5, h6, h7⟩ := h
 refine ⟨h0.setCell (p := ⟨n, 0, none⟩) (by simp) _, heap_setCell_same _ _ _ _ _ _ h2, ?_, ?_, h6, h7⟩
 ·rw [heap_setCell_other _ _ _ _ (by simp)]; exact h4
 ·rw [heap_setCell_other _ _ _ _ (by simp)]; exact h5
theorem vis_cells {p : PV} {v : Value} (h : VIs p v) : ∃ k b i u f t a0 a1 a2 a3 a4 a5 a6 a7, v = .agg (vCells k b i u f t a0 a1 a2 a3 a4 a5 a6 a7) := by
 cases h <;> exact ⟨_, _, _, _, _, _, _, _, _, _, _, _, _, _, rfl⟩
theorem V3.row5 {n : Nat} {w W : World} {A : ByteArray} {B C B' : Array Value} (h : V3 n w W A B C) (hB : B'.size = 16) : V3 n w (W.setRow (n + 1) B') A B' C := by
 obtain ⟨h0, h2, h4, h5, h6, h7⟩ := h
 exact ⟨below_setRow h0 (by omega), hg_setRow h2 (by omega), row28_set _ _ _ _ h4, hg_setRow h5 (by omega), hB, h7⟩
theorem V3.told {n n8 : Nat} {w W w2 : World} {A : ByteArray} {B C : Array Value} {x : Value} (h : V3 n w W A B C) (h8 : n + 2 < n8) (hb : Below W.drew.heap.size (W.drew.setCell ⟨n8, 0, none⟩ x) w2) : V3 n w w2 A B C := by
 obtain ⟨h0, h2, h4, h5, h6, h7⟩ := h
 have hs : n + 2 < W.drew.heap.size := lt_of_heap (w := W) h5
 refine ⟨?_, ?_, ?_, ?_, h6, h7⟩
 ·exact (h0.drew.setCell (p := ⟨n8, 0, none⟩) (by simp; omega) _).trans (hb.mono (by omega))
 ·exact hg_below hb (by omega) (by rw [heap_setCell_other _ _ _ _ (by simp; omega)]; exact h2)
 ·exact hg_below hb (by omega) (by rw [heap_setCell_other _ _ _ _ (by simp; omega)]; exact h4)
 ·exact hg_below hb (by omega) (by rw [heap_setCell_other _ _ _ _ (by simp; omega)]; exact h5)
theorem V3.cells {n : Nat} {w W : World} {A : ByteArray} (h : V3 n w W A z28 z32) : W.cell? ⟨n, 0, none⟩ = some (.string A) ∧ W.frozen? ⟨n, 0, none⟩ = false ∧ (∀ i, W.frozen? ⟨n + 1, i, none⟩ = false) ∧ (∀ i, W.frozen? ⟨n + 1 + 1, i, none⟩ = false) ∧
  (∀ i, W.cell? ⟨n + 1, i, none⟩ = z28[i]?) ∧ (∀ i, W.cell? ⟨n + 1 + 1, i, none⟩ = z32[i]?) :=
 ⟨cellv h.2.1 0 _ rfl, frozen_of_row _ _ 0 _ _ h.2.1, fun i => frozen_of_row _ _ i _ _ h.2.2.1, fun i => frozen_of_row _ _ i _ _ h.2.2.2.1, fun i => cell_of_row _ _ i _ _ _ h.2.2.1, fun i => cell_of_row _ _ i _ _ _ h.2.2.2.1⟩
theorem results5 {tmps : Array Value} {n : Nat} {w W : World} {A : ByteArray} {B C : Array Value} (e4 : tmps.getD 4 undef = vp n) (e5 : tmps.getD 5 undef = vp (n + 1)) (e6 : tmps.getD 6 undef = vp (n + 2))
  (h : V3 n w W A B C) : (results Tryz.f5 tmps).run Tryz.prog W = .ok (.tuple #[.string A, .agg B, .agg C]) W := by
 obtain ⟨_, h4, h5, h6, k5, k6⟩ := h
 have c4 := cellv h4 0 _ rfl
 have L4 : (loadVar 9 ⟨n, 0, none⟩).run Tryz.prog W = .ok (.string A) W := by simp [go_sem, c4]
 have L5 := run_loadVar_row (P := Tryz.prog) W (n + 1) 28 28 B (0, 0) _ h5 Tryz.underlying28 rfl (by rw [info28, k5])
 have L6 := run_loadVar_row (P := Tryz.prog) W (n + 2) 32 32 C (0, 0) _ h6 Tryz.underlying32 rfl (by rw [info32, k6])
 unfold vp at e4 e5 e6
 simp only [Array.getD_eq_getD_getElem?] at e4 e5 e6
 simp [results, Tryz.results5, e4, e5, e6, asAddr, L4, L5, L6]
theorem sc_row {w : World} {g : Nat} {t : TypeId} {old cells : Array Value} (hg : w.heap[g]? = some (.cells old t (0, 0))) (ho : old.size = cells.size) (h1 : cells.toList.all (·.oneCell') = true) :
  (storeCells ⟨g, 0, none⟩ cells.toList).run Tryz.prog w = .ok () (w.setRow g cells) := by
 have h := run_storeCells_from (P := Tryz.prog) g t cells.toList 0 old w hg (by simp; omega) (fun v hv => by simpa using List.all_eq_true.1 h1 v hv)
 simpa using h
theorem V3.set6 {n : Nat} {w W : World} {A : ByteArray} {B C : Array Value} (h : V3 n w W A B C) (i : Nat) (v : Value) : V3 n w (W.setCell ⟨n + 1 + 1, i, none⟩ v) A B (C.setIfInBounds i v) := by
 obtain ⟨h0, h2, h4, h5, h6, h7⟩ := h
 refine ⟨h0.setCell (p := ⟨n + 1 + 1, i, none⟩) (by simp; omega) _, ?_, ?_, heap_setCell_same _ _ _ _ _ _ h5, h6, by simpa using h7⟩
 ·rw [heap_setCell_other _ _ _ _ (by simp; omega)]; exact h2
 ·rw [heap_setCell_other _ _ _ _ (by simp)]; exact h4
theorem V3.stores {n : Nat} {w w2 : World} {S : ByteArray} (h : V3 n w w2 S z28 z32) (k : Int) (b : Bool) (i u f : Int) (tt : ByteArray) (a0 a1 a2 a3 a4 a5 a6 a7 : Int) :
  (storeCells ⟨n + 1, 0, none⟩ (vCells k b i u f tt a0 a1 a2 a3 a4 a5 a6 a7).toList).run Tryz.prog (w2.setCell ⟨n, 0, none⟩ (.string S)) = .ok () ((w2.setCell ⟨n, 0, none⟩ (.string S)).setRow (n + 1) (vCells k b i u f tt a0 a1 a2 a3 a4 a5 a6 a7)) ∧
  V3 n w ((w2.setCell ⟨n, 0, none⟩ (.string S)).setRow (n + 1) (vCells k b i u f tt a0 a1 a2 a3 a4 a5 a6 a7)) S (vCells k b i u f tt a0 a1 a2 a3 a4 a5 a6 a7) z32 ∧ (∀ j, ((w2.setCell ⟨n, 0, none⟩ (.string S)).setRow (n + 1) (vCells k b i u f tt a0 a1 a2 a3 a4 a5 a6 a7)).frozen? ⟨n + 1 + 1, j, none⟩ = false) ∧ (∀ j, ((w2.setCell ⟨n, 0, none⟩ (.string S)).setRow (n + 1) (vCells k b i u f tt a0 a1 a2 a3 a4 a5 a6 a7)).cell? ⟨n + 1 + 1, j, none⟩ = z32[j]?) := by
 have h1 := h.put S
 have h2 : V3 n w ((w2.setCell ⟨n, 0, none⟩ (.string S)).setRow (n + 1) (vCells k b i u f tt a0 a1 a2 a3 a4 a5 a6 a7)) S (vCells k b i u f tt a0 a1 a2 a3 a4 a5 a6 a7) z32 := h1.row5 rfl
 exact ⟨sc_row h1.2.2.1 rfl rfl, h2, fun j => frozen_of_row _ _ j _ _ h2.2.2.2.1, fun j => cell_of_row _ _ j _ _ _ h2.2.2.2.1⟩
set_option maxRecDepth 100000 in
set_option maxHeartbeats 4000000 in
theorem resolve3_any (tag s : ByteArray) (t0 l : Bs) (w : World) (hT0 : StrIs tag t0) (hL : StrIs s l) (ht : tag.size ≤ 1000) (hs : s.size ≤ 200) :
  Calls Tryz.prog 5 #[.string tag, .string s] w (R3Post (shortP t0) l w) := by
 have hmf : ∀ (fn : Fn) (first cap : Array Value) (w : World), (Instr.makeFunc fn first cap).run Tryz.prog w = .ok (.func fn first cap) w := fun _ _ _ _ => rfl
 have HC : Hid (∀ w, Calls Tryz.prog 11 #[.string tag, .string s] w (RPost (shortP t0) l w)) := Lib.hid (fun w => zzResolve_any tag s t0 l w hT0 hL ht hs)
 have HS := Lib.hid hs
 clear hT0 hL ht hs
 obtain ⟨t, hteq⟩ : ∃ t, shortP t0 = t := ⟨_, rfl⟩
 rw [hteq] at HC ⊢
 clear hteq
 go_enter_defers Tryz.func5, Tryz.ntmps5
 go_wp2_with fail
 refine (beyond_any s (Nat.le_trans HS.out (by decide)) _).mono ?_
 rintro e w' ⟨rfl, rfl⟩
 go_wp2_with fail
 refine (HC.out _).mono ?_
 rintro e w' ⟨hB, h⟩
 have HV := Lib.hid ((V3.begin w).step hB)
 clear hB
 obtain ⟨S, X, tg, p, h1, h2, h3, rfl⟩ | ⟨h1, v, hv, rfl⟩ := h
 case inr =>
  go_wp2
  obtain ⟨hB, g4, g5, g6, _, _⟩ := HV.out
  refine leaves_cons (f := 8) (args := #[.pointer (some ⟨w.heap.size + 1 + 1, 0, none⟩), .func (.func 9) #[] #[.pointer (some ⟨w.heap.size, 0, none⟩), .pointer (some ⟨w.heap.size + 1, 0, none⟩)]]) (by simp) (by simp [go_sem]) ?_
  refine (caught_err (w.heap.size + 2) w.heap.size (w.heap.size + 1) v [] hv w' _ _ g4 g5 rfl g6 (by omega) (by omega)).mono ?_
  rintro e u' w'' ⟨rfl, rfl, k4, k5, k6, kB⟩
  have HV2 : V3 w.heap.size w w'' ⟨#[]⟩ z28 (k32 7) := ⟨hB.trans kB, k4, k5, k6, rfl, rfl⟩
  exact ⟨_, results5 rfl rfl rfl HV2, HV2.1, .inr ⟨h1, rfl⟩⟩
 have HF := Lib.hid h1
 have HS' := Lib.hid h2
 have HX := Lib.hid h3
 clear h1 h2 h3
 have c4 := cellv HV.out.2.1 0 _ rfl
 have f4 := frozen_of_row _ _ 0 _ _ HV.out.2.1
 go_upto_region 6 with fail
 have hn8 : w.heap.size + 2 < w'.heap.size := lt_of_heap HV.out.2.2.2.1
 have HV2 : Hid (V3 w.heap.size w ((w'.setCell ⟨w.heap.size, 0, none⟩ (.string S)).alloc (.cells #[.int .i64 1000] 3)) S z28 z32) := Lib.hid ((HV.out.put S).step ((Below.refl _ _).alloc (Nat.le_refl _) _))
 have H8 : Hid (((w'.setCell ⟨w.heap.size, 0, none⟩ (.string S)).alloc (.cells #[.int .i64 1000] 3)).heap[w'.heap.size]? = some (.cells #[.int .i64 1000] 3 (0, 0))) := Lib.hid (by
  have h := heap_alloc_new (w'.setCell ⟨w.heap.size, 0, none⟩ (.string S)) (.cells #[.int .i64 1000] 3)
  rw [show (w'.setCell ⟨w.heap.size, 0, none⟩ (.string S)).heap.size = w'.heap.size by simp] at h
  exact h)
 clear c4 f4 HV
 generalize World.alloc (w'.setCell ⟨w.heap.size, 0, none⟩ (.string S)) (.cells #[.int .i64 1000] 3) = W at *
 generalize w'.heap.size = n8 at *
 obtain ⟨c4, f4, f5, f6, c5, c6⟩ := HV2.out.cells
 refine wp_region_noPanic ?_
 go_region_with (
  go_at_call 12
  refine (tell_all HX.out n8 W.drew (show W.drew.heap[n8]? = _ from H8.out)).mono ?_
  rintro e w2 ⟨hB, v, hv, rfl⟩
  have HVV := Lib.hid hv
  obtain ⟨k, b, i, u, f, tt, a0, a1, a2, a3, a4, a5, a6, a7, rfl⟩ := vis_cells hv
  have HV3 := Lib.hid (HV2.out.told hn8 hB)
  clear hv hB
  obtain ⟨q4, qf4, qf5, _, _, _⟩ := HV3.out.cells
  obtain ⟨SC28, hv5, qf6, q6⟩ := HV3.out.stores k b i u f tt a0 a1 a2 a3 a4 a5 a6 a7
  have HV5 := Lib.hid hv5
  have p6_0 : ((w2.setCell ⟨w.heap.size, 0, none⟩ (.string S)).setRow (w.heap.size + 1) (vCells k b i u f tt a0 a1 a2 a3 a4 a5 a6 a7)).cell? ⟨w.heap.size + 1 + 1, 0, none⟩ = some (.int .i64 0) := q6 0
  have p6_1 : ((w2.setCell ⟨w.heap.size, 0, none⟩ (.string S)).setRow (w.heap.size + 1) (vCells k b i u f tt a0 a1 a2 a3 a4 a5 a6 a7)).cell? ⟨w.heap.size + 1 + 1, 1, none⟩ = some (.int .i64 0) := q6 1
  have p6_2 : ((w2.setCell ⟨w.heap.size, 0, none⟩ (.string S)).setRow (w.heap.size + 1) (vCells k b i u f tt a0 a1 a2 a3 a4 a5 a6 a7)).cell? ⟨w.heap.size + 1 + 1, 2, none⟩ = some (.int .i64 0) := q6 2
  have p6_3 : ((w2.setCell ⟨w.heap.size, 0, none⟩ (.string S)).setRow (w.heap.size + 1) (vCells k b i u f tt a0 a1 a2 a3 a4 a5 a6 a7)).cell? ⟨w.heap.size + 1 + 1, 3, none⟩ = some (.int .i64 0) := q6 3
  have p6_4 : ((w2.setCell ⟨w.heap.size, 0, none⟩ (.string S)).setRow (w.heap.size + 1) (vCells k b i u f tt a0 a1 a2 a3 a4 a5 a6 a7)).cell? ⟨w.heap.size + 1 + 1, 4, none⟩ = some (.int .i64 0) := q6 4
  have p6_5 : ((w2.setCell ⟨w.heap.size, 0, none⟩ (.string S)).setRow (w.heap.size + 1) (vCells k b i u f tt a0 a1 a2 a3 a4 a5 a6 a7)).cell? ⟨w.heap.size + 1 + 1, 5, none⟩ = some (.int .i64 0) := q6 5
  clear q6 hv5)
 all_goals
  refine NoPanic.normal ?_
  have HV6 : Hid (V3 w.heap.size w _ S (vCells k b i u f tt a0 a1 a2 a3 a4 a5 a6 a7) z32) := Lib.hid ((((((HV5.out.set6 0 (.int .i64 0)).set6 1 (.int .i64 0)).set6 2 (.int .i64 0)).set6 3 (.int .i64 0)).set6 4 (.int .i64 0)).set6 5 (.int .i64 0))
  go_wp2_with fail
  refine leaves_cons (f := 8) (args := #[.pointer (some ⟨w.heap.size + 1 + 1, 0, none⟩), .func (.func 9) #[] #[.pointer (some ⟨w.heap.size, 0, none⟩), .pointer (some ⟨w.heap.size + 1, 0, none⟩)]]) (by simp) (by simp [go_sem]) ?_
  refine (caught_idle _ _ _).mono ?_
  rintro e u' w'' ⟨rfl, rfl, rfl⟩
  exact ⟨_, results5 rfl rfl rfl HV6.out, HV6.out.1, .inl ⟨S, _, tg, p, HF.out, HS'.out, HVV.out, rfl⟩⟩
end Go.Proofs.YtillamhoakohdaaGreatDoor
namespace Go.Proofs.YtillamhoakohdaaGreatDoor
open Go.RowKit

def TagPost (w : World) (e : Ending) (w' : World) : Prop := Below w.heap.size w w' ∧ ∃ s t, StrIs s t ∧ s.size ≤ 1000 ∧ shortP t = short t ∧ e = .returned (.string s)
set_option maxRecDepth 100000 in
set_option maxHeartbeats 4000000 in
theorem yrTag_any (k : Int) (h0 : 0 ≤ k) (h1 : k ≤ 255) (w : World) : Calls Tryz.prog 4 #[.int .u8 k] w (TagPost w) := by
 obtain ⟨r, hr⟩ : ∃ r, k.tmod 12 = r := ⟨_, rfl⟩
 have hr0 : 0 ≤ r := by rw [← hr]; exact Int.tmod_nonneg _ h0
 have hr1 : r < 12 := by rw [← hr]; exact Int.tmod_lt_of_pos _ (by decide)
 have hcase : r = 0 ∨ r = 1 ∨ r = 2 ∨ r = 3 ∨ r = 4 ∨ r = 5 ∨ r = 6 ∨ r = 7 ∨ r = 8 ∨ r = 9 ∨ r = 10 ∨ r = 11 := by omega
 clear hr0 hr1
 rcases hcase with rfl | rfl | rfl | rfl | rfl | rfl | rfl | rfl | rfl | rfl | rfl | rfl
 all_goals
  go_enter Tryz.func4, Tryz.ntmps4
  go_wp2
  go_ret
  exact ⟨(Below.refl _ _).alloc (Nat.le_refl _) _, _, _, rfl, by decide, by decide, rfl⟩
theorem StrIs.same {s s' : ByteArray} {l : Bs} (h : StrIs s l) (h' : StrIs s' l) : s = s' := by
 cases s; cases s'
 unfold StrIs at h h'
 simp only at h h'
 congr 1
 exact Array.toList_inj.1 (h.trans h'.symm)
theorem vis_same {p : PV} {v v' : Value} (h : VIs p v) (h' : VIs p v') : v = v' := by
 cases h with
 | txt s l hs =>
  cases h' with
  | txt s' _ hs' => rw [hs.same hs']
 | _ => cases h'; rfl
end Go.Proofs.YtillamhoakohdaaGreatDoor
